/-
  The state behind Keep; what overwriting the caller's packets leaves alone.
-/
import Derived.Test.Qxb6630770aClone
import Derived.Test.Qxb6630770aSame
import Derived.Test.Qxb6630770aKeep
import Derived.Test.Qxb6630770aSmall
namespace Go.Proofs.Qxb6630770a
open Go.RowKit

theorem n22 (w : World) (a : Option Addr) (n c n' c' : Nat) : (binOp .neq 22 (.slice a n c) (.slice none n' c')).run Try.prog w = .ok (.bool (!a.isNone)) w := run_neq_slice_nil_any w _ _ a n c n' c' Try.underlying22

theorem Kept.pkt {w : World} {M : Nat} {v : Value} {bs : List Int} (h : Kept w M v bs) : Pkt w v bs := by
  obtain ⟨a, h1, h2, h3⟩ := h
  refine ⟨a, _, h1, fun h => ⟨h2 h, h2 h⟩, Nat.le_refl _, fun h0 => ?_⟩
  obtain ⟨o, ha, hc⟩ := h3 h0
  exact ⟨M, o, ha, hc⟩

theorem Kept.of_block {w w' : World} {M : Nat} {v : Value} {bs : List Int} (h : Kept w M v bs) (hb : w'.heap[M]? = w.heap[M]?) : Kept w' M v bs := by
  obtain ⟨a, h1, h2, h3⟩ := h
  refine ⟨a, h1, h2, fun h0 => ?_⟩
  obtain ⟨o, ha, hc⟩ := h3 h0
  exact ⟨o, ha, fun j hj => (World.cell?_of_block (w := w) (a := ⟨M, o + j, none⟩) hb).trans (hc j hj)⟩

/-- The kept queue: the outer row is block O, the bytes lie in block M. -/
def KeptQ (w : World) (O M : Nat) (qs : List (List Int)) : Prop := ∃ V', w.rowIs O 24 qs.length V' ∧ ∀ i, i < qs.length → Kept w M (V' i) (qs.getD i [])

theorem KeptQ.pkts {w : World} {O M : Nat} {qs : List (List Int)} (h : KeptQ w O M qs) : Pkts w O 0 qs := by
  obtain ⟨V, h1, h2⟩ := h
  intro i hi
  rw [Nat.zero_add]
  exact ⟨V i, h1.cell hi, (h2 i hi).pkt⟩

theorem KeptQ.of_block {w w' : World} {O M : Nat} {qs : List (List Int)} (h : KeptQ w O M qs) (hO : w'.heap[O]? = w.heap[O]?) (hM : w'.heap[M]? = w.heap[M]?) : KeptQ w' O M qs := by
  obtain ⟨V, h1, h2⟩ := h
  exact ⟨V, h1.of_block hO, fun i hi => (h2 i hi).of_block hM⟩

theorem grownBy_drewN (w : World) (q : Nat) (r : Option Nat) : w.grownBy (w.drewN q) r := ⟨rfl, rfl, rfl, Nat.le_refl _, fun _ _ _ => rfl⟩

/-- Keep, whether or not there is a byte. -/
theorem keep_any (pe O n c T : Nat) (sent queued : Int) (qs : List (List Int)) (V : Nat → Value) (w : World) (hT : octs qs = T) (hm : T ≤ 1048576) (hs : 0 ≤ sent) (hqd : 0 ≤ queued) (hsq : queued + sent = (T : Int))
    (c1 : w.cell? ⟨pe, 1, none⟩ = some (.slice (some ⟨O, 0, none⟩) n c)) (c2 : w.cell? ⟨pe, 2, none⟩ = some (.int .i64 sent)) (c3 : w.cell? ⟨pe, 3, none⟩ = some (.int .i64 queued))
    (hl : qs.length = n) (hn : n ≤ 32768) (hV : w.rowIs O 24 n V) (hP : ∀ i, i < n → PktIn (· ≠ O) w (V i) (qs.getD i [])) (hpe : pe ≠ O)
    (hz : T = 0 → ∀ i, i < n → ∃ a, V i = .slice a 0 0) :
    Calls Try.prog 8 #[.pointer (some ⟨pe, 0, none⟩)] w fun e w' => e = .returned (.tuple #[]) ∧ KeptQ w' O w.heap.size qs ∧ w.grownBy w' (some O) := by
  by_cases h0 : 0 < T
  · refine (keep_some pe O n c T sent queued qs V w h0 hT hm hs hqd hsq c1 c2 c3 hl hn hV hP hpe).mono ?_
    rintro e w' ⟨he, ⟨V', h1, h2⟩, h3⟩
    subst hl
    exact ⟨he, ⟨V', h1, h2⟩, h3⟩
  · obtain rfl : sent = 0 := by omega
    obtain rfl : queued = 0 := by omega
    refine (keep_zero pe w c2 c3).mono ?_
    rintro e w' ⟨he, q, rfl⟩
    subst hl
    refine ⟨he, ⟨V, hV, fun i hi => ?_⟩, grownBy_drewN _ _ _⟩
    obtain ⟨a, ha⟩ := hz (by omega) i hi
    have hlen : (qs.getD i []).length = 0 := by have := len_le_octs qs i hi; omega
    exact ⟨a, by rw [hlen]; exact ha, fun _ => hlen, fun h => absurd h (by omega)⟩

/-- Only blocks between lo and hi have turned. -/
structure Over (lo hi : Nat) (w w' : World) : Prop where
  os : w'.os = w.os
  tape : w'.tape = w.tape
  output : w'.output = w.output
  size : w.heap.size ≤ w'.heap.size
  block : ∀ k, ¬ (lo < k ∧ k < hi) → w'.heap[k]? = w.heap[k]?

theorem Over.refl (lo hi : Nat) (w : World) : Over lo hi w w := ⟨rfl, rfl, rfl, Nat.le_refl _, fun _ _ => rfl⟩
theorem Over.setCell {lo hi : Nat} {w w' : World} (h : Over lo hi w w') (g j : Nat) (u : Value) (h1 : lo < g) (h2 : g < hi) : Over lo hi w (w'.setCell ⟨g, j, none⟩ u) :=
  ⟨h.os, h.tape, h.output, by simpa [World.setCell] using h.size, fun k hk => (Below.heap_setCell _ _ _ _ (by intro e; simp at e; omega)).trans (h.block k hk)⟩
theorem Over.below {lo hi B : Nat} {w w' : World} (h : Over lo hi w w') (hB : B ≤ lo + 1) : Below B w w' :=
  ⟨h.os, h.tape, h.output, h.size, fun k hk => h.block k (by omega)⟩

/-- A packet of the caller's own that may be overwritten. -/
def Soft (w : World) (lo hi : Nat) (v : Value) : Prop :=
  v = .slice none 0 0 ∨ ∃ g l, v = .slice (some ⟨g, 0, none⟩) l l ∧ l ≤ 1048576 ∧ lo < g ∧ g < hi ∧ ∃ f : Nat → Int, w.rowIs g 5 l (fun j => .int .u8 (f j))

theorem Soft.setCell {w : World} {lo hi : Nat} {v : Value} (h : Soft w lo hi v) (g j : Nat) (y : Int) : Soft (w.setCell ⟨g, j, none⟩ (.int .u8 y)) lo hi v := by
  rcases h with h | ⟨g', l, h1, hl, h2, h3, f, h4⟩
  · exact Or.inl h
  · refine Or.inr ⟨g', l, h1, hl, h2, h3, ?_⟩
    by_cases e : g' = g
    · subst e
      exact ⟨fun i => if i = j then y else f i, (h4.set j _).congr (fun i _ => by by_cases e : i = j <;> simp [e])⟩
    · exact ⟨f, h4.setOther (by simpa using e) _⟩

theorem OwnPkt.soft {w w' : World} {B hi : Nat} {v : Value} {bs : List Int} (h : OwnPkt w B v bs) (hsz : w.heap.size = hi) (hl : bs.length ≤ 1048576) (hb : ∀ k, B < k → k < hi → w'.heap[k]? = w.heap[k]?) : Soft w' B hi v := by
  rcases h with ⟨h, _⟩ | ⟨g, h1, h2, h3⟩
  · exact Or.inl h
  · have := h3.lt
    exact Or.inr ⟨g, _, h1, hl, h2, by omega, _, h3.of_block (hb g h2 (by omega))⟩

theorem OwnPkt.off {w w' : World} {B O : Nat} {v : Value} {bs : List Int} (h : OwnPkt w B v bs) (hO : w.heap.size ≤ O) (hb : ∀ k, k < w.heap.size → w'.heap[k]? = w.heap[k]?) : PktIn (· ≠ O) w' v bs := by
  rcases h with ⟨rfl, rfl⟩ | ⟨g, rfl, _, h3⟩
  · exact ⟨none, 0, rfl, fun _ => ⟨rfl, rfl⟩, Nat.le_refl _, fun h => absurd h (Nat.lt_irrefl _)⟩
  · have hg := h3.lt
    exact ⟨_, _, rfl, (fun h => by cases h), Nat.le_refl _, fun _ => ⟨g, 0, rfl, by omega, fun j hj => by rw [Nat.zero_add]; exact (h3.of_block (hb g hg)).cell hj⟩⟩

theorem OwnQ.over {w w' : World} {lo hi B : Nat} {qs : List (List Int)} (h : OwnQ w B qs) (ho : Over lo hi w w') (hB : hi ≤ B) : OwnQ w' B qs := by
  obtain ⟨V, h1, h2⟩ := h
  refine ⟨V, h1.of_block (ho.block B (by omega)), fun i hi => ?_⟩
  rcases h2 i hi with h | ⟨g, g1, g2, g3⟩
  · exact Or.inl h
  · exact Or.inr ⟨g, g1, g2, g3.of_block (ho.block g (by omega))⟩

theorem Over.cell {lo hi : Nat} {w w' : World} (h : Over lo hi w w') (b o : Nat) (hb : hi ≤ b) : w'.cell? ⟨b, o, none⟩ = w.cell? ⟨b, o, none⟩ :=
  World.cell?_of_block (w := w) (a := ⟨b, o, none⟩) (h.block b (by omega))

/-- What holds while the caller overwrites its packets. -/
structure Inv (w6 wr : World) (lo hi n : Nat) (V : Nat → Value) : Prop where
  over : Over lo hi w6 wr
  soft : ∀ i, i < n → Soft wr lo hi (V i)

theorem Inv.setCell {w6 wr : World} {lo hi n : Nat} {V : Nat → Value} (h : Inv w6 wr lo hi n V) (g j : Nat) (h1 : lo < g) (h2 : g < hi) (y : Int) : Inv w6 (wr.setCell ⟨g, j, none⟩ (.int .u8 y)) lo hi n V :=
  ⟨h.over.setCell g j _ h1 h2, fun i hi => (h.soft i hi).setCell g j y⟩

theorem Inv.row {w6 wr : World} {lo hi n m g l : Nat} {V : Nat → Value} (h : Inv w6 wr lo hi n V) (hm : m < n) (hv : V m = .slice (some ⟨g, 0, none⟩) l l) : ∃ f : Nat → Int, wr.rowIs g 5 l (fun j => .int .u8 (f j)) := by
  rcases h.soft m hm with h | ⟨g', l', h1, _, _, _, h4⟩
  · rw [hv] at h; simp at h
  · rw [hv] at h1
    simp at h1
    obtain ⟨rfl, rfl⟩ := h1
    exact h4
end Go.Proofs.Qxb6630770a
