/-
  Packets in memory: what the walks say of a queue of packets.
-/
import Derived.Test.Qxb6630770aRows
import Derived.WalkKit
import Derived.WalkSpells
import Derived.WalkLawsBesides
import Derived.Deep.OwnRows
namespace Go.Proofs.Qxb6630770a
open Go.RowKit

theorem info5 : (Try.prog.info? 5).map (fun i => (i.zero, i.size, i.bytes)) = some (some (.int .u8 0), 1, 1) := by kernel_rfl
theorem info24 : (Try.prog.info? 24).map (fun i => (i.zero, i.size, i.bytes)) = some (some (.slice none 0 0), 1, 24) := by kernel_rfl

/-- A slice value that reads as the bytes bs. -/
def Pkt (w : World) (v : Value) (bs : List Int) : Prop :=
  ∃ a c, v = .slice a bs.length c ∧ (a = none → bs.length = 0 ∧ c = 0) ∧ bs.length ≤ c ∧
    (0 < bs.length → ∃ b o, a = some ⟨b, o, none⟩ ∧ ∀ j, j < bs.length → w.cell? ⟨b, o + j, none⟩ = some (.int .u8 (bs.getD j 0)))

/-- A row of packets from the address ⟨b, off⟩ on. -/
def Pkts (w : World) (b off : Nat) (qs : List (List Int)) : Prop :=
  ∀ i, i < qs.length → ∃ v, w.cell? ⟨b, off + i, none⟩ = some v ∧ Pkt w v (qs.getD i [])

theorem Pkt.kept {w w' : World} {v : Value} {bs : List Int} (h : Pkt w v bs) (hk : ∀ a u, w.cell? a = some u → w'.cell? a = some u) : Pkt w' v bs := by
  obtain ⟨a, c, h1, h2, h3, h4⟩ := h
  refine ⟨a, c, h1, h2, h3, fun h0 => ?_⟩
  obtain ⟨b, o, ha, hc⟩ := h4 h0
  exact ⟨b, o, ha, fun j hj => hk _ _ (hc j hj)⟩

theorem Pkts.kept {w w' : World} {b off : Nat} {qs : List (List Int)} (h : Pkts w b off qs) (hk : ∀ a u, w.cell? a = some u → w'.cell? a = some u) : Pkts w' b off qs := by
  intro i hi
  obtain ⟨v, hv, hp⟩ := h i hi
  exact ⟨v, hk _ _ hv, hp.kept hk⟩

/-- What was there is there still. -/
theorem keeps {w w' : World} (h : Below w.heap.size w w') : ∀ a u, w.cell? a = some u → w'.cell? a = some u :=
  fun _ _ hu => (h.cell (World.block_lt_of_cell? _ _ hu)).trans hu

/-- A packet in a block of its own behind block B. -/
def OwnPkt (w : World) (B : Nat) (v : Value) (bs : List Int) : Prop :=
  (v = .slice none 0 0 ∧ bs = []) ∨ ∃ g, v = .slice (some ⟨g, 0, none⟩) bs.length bs.length ∧ B < g ∧ w.rowIs g 5 bs.length (fun j => .int .u8 (bs.getD j 0))

theorem OwnPkt.below {w w' : World} {B D : Nat} {v : Value} {bs : List Int} (h : OwnPkt w B v bs) (hb : Below D w w') (hD : ∀ g, w.heap.size ≤ D ∨ g < D) : OwnPkt w' B v bs := by
  rcases h with h | ⟨g, h1, h2, h3⟩
  · exact Or.inl h
  · refine Or.inr ⟨g, h1, h2, h3.of_block (hb.block g ?_)⟩
    have := h3.lt
    rcases hD g with h | h <;> omega

theorem OwnPkt.pkt {w : World} {B : Nat} {v : Value} {bs : List Int} (h : OwnPkt w B v bs) : Pkt w v bs := by
  rcases h with ⟨rfl, rfl⟩ | ⟨g, rfl, _, h3⟩
  · exact ⟨none, 0, rfl, fun _ => ⟨rfl, rfl⟩, Nat.le_refl _, fun h => absurd h (Nat.lt_irrefl _)⟩
  · exact ⟨_, _, rfl, (fun h => by cases h), Nat.le_refl _, fun _ => ⟨g, 0, rfl, fun j hj => by rw [Nat.zero_add]; exact h3.cell hj⟩⟩

/-- A queue of packets of the call's own: the outer row is block B, each packet lies behind it. -/
def OwnQ (w : World) (B : Nat) (qs : List (List Int)) : Prop :=
  ∃ V : Nat → Value, w.rowIs B 24 qs.length V ∧ ∀ i, i < qs.length → OwnPkt w B (V i) (qs.getD i [])

theorem OwnQ.below {w w' : World} {B : Nat} {qs : List (List Int)} (h : OwnQ w B qs) (hb : Below w.heap.size w w') : OwnQ w' B qs := by
  obtain ⟨V, h1, h2⟩ := h
  exact ⟨V, h1.of_block (hb.block B h1.lt), fun i hi => (h2 i hi).below hb (fun _ => Or.inl (Nat.le_refl _))⟩

theorem OwnQ.pkts {w : World} {B : Nat} {qs : List (List Int)} (h : OwnQ w B qs) : Pkts w B 0 qs := by
  obtain ⟨V, h1, h2⟩ := h
  intro i hi
  rw [Nat.zero_add]
  exact ⟨V i, h1.cell hi, (h2 i hi).pkt⟩

/-- How many bytes in all. -/
def octs (qs : List (List Int)) : Nat := (qs.map List.length).sum
theorem octs_snoc (qs : List (List Int)) (k : Nat) (h : k < qs.length) : octs (qs.take (k + 1)) = octs (qs.take k) + (qs.getD k []).length := by
  unfold octs
  rw [List.take_succ_eq_append_getElem h, List.map_append, List.sum_append]
  simp [h]
theorem octs_le (qs : List (List Int)) (k : Nat) : octs (qs.take k) ≤ octs qs := by
  have h : octs qs = octs (qs.take k) + octs (qs.drop k) := by
    unfold octs
    rw [← List.sum_append, ← List.map_append, List.take_append_drop]
  omega
theorem len_le_octs (qs : List (List Int)) (k : Nat) (h : k < qs.length) : (qs.getD k []).length ≤ octs qs := by
  have := octs_snoc qs k h
  have := octs_le qs (k + 1)
  omega
end Go.Proofs.Qxb6630770a
