/-
  InAcceptanceOrder.
-/
import Derived.Test.Qxb6630848aPlain
namespace Go.Proofs.Qxb6630848a
open Go.RowKit Go.Maps Go.WideMaps

theorem info29 : (Try.prog.info? 29).map (fun i => (i.zero, i.size, i.bytes)) = some (some (.agg #[.string ByteArray.empty, .string ByteArray.empty, .string ByteArray.empty, .map none]), 4, 56) := by kernel_rfl
theorem law9 : Keyed Try.prog 9 := string_keyed Try.underlying9
theorem zero4 (w : World) : (zeroValue 4).run Try.prog w = .ok (.bool false) w := by kernel_rfl

def flatC (es : List Ev) : List Value := es.flatMap Ev.cells
theorem flatC_len (es : List Ev) : (flatC es).length = es.length * 4 := by
  induction es with
  | nil => rfl
  | cons e r ih =>
    have h : flatC (e :: r) = e.cells ++ flatC r := rfl
    rw [h, List.length_append, ih, List.length_cons]
    show 4 + _ = _
    omega
theorem flatC_snoc (es : List Ev) (e : Ev) : flatC (es ++ [e]) = flatC es ++ e.cells := by simp [flatC]

theorem flatC_at (es : List Ev) : ∀ (i j : Nat), i < es.length → j < 4 → (flatC es)[i * 4 + j]? = (es.getD i ev0).cells[j]? := by
  induction es with
  | nil => intro i j hi _; simp at hi
  | cons e r ih =>
    intro i j hi hj
    have h : flatC (e :: r) = e.cells ++ flatC r := rfl
    have hc : e.cells.length = 4 := rfl
    rw [h]
    cases i with
    | zero => rw [List.getElem?_append_left (by omega)]; simp
    | succ k =>
      rw [List.getElem?_append_right (by omega), hc, show (k + 1) * 4 + j - 4 = k * 4 + j from by omega, ih k j (by simpa using hi) hj]
      simp

theorem cells_lt {e : Ev} {j : Nat} {u : Value} (h : e.cells[j]? = some u) : j < 4 := (List.getElem?_eq_some_iff.1 h).1

/-- What a call owns as a row of events is a slice of events. -/
theorem EvS.owned {w : World} {base : Nat} {v : Value} {es : List Ev} (h : w.ownsRow base 29 4 v es.length (flatC es)) : EvS w v es := by
  rcases h.2 with ⟨rfl, h0⟩ | ⟨g, cap, cur, rfl, _, _, hnc, _⟩
  · exact ⟨none, 0, by rw [h0], fun _ => ⟨h0, rfl⟩, by omega, fun h1 => absurd h1 (by omega)⟩
  · refine ⟨_, _, rfl, (fun e => by cases e), hnc, fun _ => ⟨g, 0, rfl, fun i hi j u hu => ?_⟩⟩
    have hj := cells_lt hu
    rw [Nat.zero_add, h.cellAt (i * 4 + j) (by omega), flatC_at es i j hi hj]
    exact hu

/-- The loop's state after k rounds: the set in block B, the gathered slice v from block B + 1 on. -/
structure Acc (w wr : World) (B k : Nat) (es : List Ev) (v : Value) : Prop where
  seen : wr.ownsMap Try.prog 9 (plainElem (H := Unit) Try.prog 4) B k (setOf (.lit (.bool true)) ((fst (es.take k)).map keyL))
  own : wr.ownsRow (B + 1) 29 4 v (fst (es.take k)).length (flatC (fst (es.take k)))
  nil : (fst (es.take k)).length = 0 → v = .slice none 0 0
  bel : Below B w wr
  size : B + 1 ≤ wr.heap.size

theorem Acc.skip {w wr : World} {B k : Nat} {es : List Ev} {v : Value} (h : Acc w wr B k es v) (hf : fst (es.take (k + 1)) = fst (es.take k)) (o : Obj) : Acc w (wr.alloc o) B (k + 1) es v := by
  refine ⟨?_, ?_, ?_, h.bel.alloc (by have := h.size; omega) o, by have := h.size; simp; omega⟩
  · rw [hf]; exact (h.seen.alloc o).mono (Nat.le_succ k)
  · rw [hf]; exact h.own.alloc o
  · rw [hf]; exact h.nil

theorem Acc.add {w wr w1 w2 : World} {B k : Nat} {es : List Ev} {v v' : Value} {e : Ev} {o o' : Obj} (h : Acc w wr B k es v) (hf : fst (es.take (k + 1)) = fst (es.take k) ++ [e]) (hB : B = w.heap.size)
    (hs : w1.ownsMap Try.prog 9 (plainElem (H := Unit) Try.prog 4) B (k + 1) ((setOf (.lit (.bool true)) ((fst (es.take k)).map keyL)).put (keyL e) (.lit (.bool true)))) (g1 : (wr.alloc o).grownBy w1 (some B))
    (ho : w2.ownsRow (B + 1) 29 4 v' ((fst (es.take k)).length + 1) (flatC (fst (es.take k)) ++ e.cells)) (g2 : (w1.alloc o').grownBy w2 v.ownBlock) : Acc w w2 B (k + 1) es v' := by
  have z1 := g1.size
  have z2 := g2.size
  have z0 := h.size
  simp at z1 z2
  have hrow : ∀ j, v.ownBlock = some j → B + 1 ≤ j := fun j hj => (h.own.lt j hj).1
  refine ⟨?_, ?_, ?_, ?_, by omega⟩
  · rw [hf, List.map_append, List.map_singleton, setOf_snoc]
    exact (hs.alloc o').kept g2 (by intro e; have := hrow B e.symm; omega)
  · rw [hf, List.length_append, flatC_snoc]
    exact ho
  · rw [hf]; simp
  · have b1 : Below B w w1 := (h.bel.alloc (by omega) o).grown g1 (by simp; omega) (fun j hj => by cases hj; exact Nat.le_refl _)
    exact (b1.alloc (by omega) o').grown g2 (by simp; omega) (fun j hj => by have := hrow j hj; omega)

theorem four_cells (w : World) (i t r : ByteArray) (m : Option Nat) : ∀ j u, (Ev.cells ⟨i, t, r, m⟩)[j]? = some u → (w.alloc (.cells #[.string i, .string t, .string r, .map m] 29)).cell? ((⟨w.heap.size, 0, none⟩ : Addr).add j) = some u := by
  intro j u hu
  rw [Addr.add_lit]
  match j, hu with
  | 0, hu => simp [Ev.cells] at hu; subst hu; simp
  | 1, hu => simp [Ev.cells] at hu; subst hu; simp
  | 2, hu => simp [Ev.cells] at hu; subst hu; simp
  | 3, hu => simp [Ev.cells] at hu; subst hu; simp
  | _ + 4, hu => simp [Ev.cells] at hu
theorem four_one (i t r : ByteArray) (m : Option Nat) : ∀ u ∈ Ev.cells ⟨i, t, r, m⟩, u.oneCell' = true := by
  intro u hu
  simp [Ev.cells] at hu
  rcases hu with rfl | rfl | rfl | rfl <;> rfl

theorem box_cells {wr w1 : World} {B : Nat} {i t r : ByteArray} {m : Option Nat} (g : (wr.alloc (.cells #[.string i, .string t, .string r, .map m] 29)).grownBy w1 (some B)) (hB : B < wr.heap.size) :
    w1.cell? ⟨wr.heap.size, 0, none⟩ = some (.string i) ∧ w1.cell? ⟨wr.heap.size, 1, none⟩ = some (.string t) ∧ w1.cell? ⟨wr.heap.size, 2, none⟩ = some (.string r) ∧ w1.cell? ⟨wr.heap.size, 3, none⟩ = some (.map m) :=
  ⟨g.cell (by simp) (by simp; omega), g.cell (by simp) (by simp; omega), g.cell (by simp) (by simp; omega), g.cell (by simp) (by simp; omega)⟩

theorem own_past {wr w1 : World} {B n : Nat} {v : Value} {xs : List Value} {o : Obj} (h : wr.ownsRow (B + 1) 29 4 v n xs) (g : (wr.alloc o).grownBy w1 (some B)) : w1.ownsRow (B + 1) 29 4 v n xs :=
  (h.alloc o).kept g (by
    cases hv : v.ownBlock with
    | none => exact Or.inl rfl
    | some j => have := (h.lt j hv).1; right; simp; omega)

set_option maxHeartbeats 2000000 in
theorem order_some (b o n c : Nat) (es : List Ev) (w : World) (hl : es.length = n) (hn : n ≤ 65536)
    (hc : ∀ i, i < n → w.rangeAt b (o + i * 4) (es.getD i ev0).cells) (hid : ∀ e, e ∈ es → e.id.size ≤ maxLen) :
    Calls Try.prog 7 #[.slice (some ⟨b, o, none⟩) n c] w fun e w' => ∃ v, e = .returned v ∧ EvS w' v (fst es) ∧ (v = .slice none 0 0 ↔ n = 0) ∧ Below w.heap.size w w' := by
  have HC : Hid (∀ i, i < n → w.rangeAt b (o + i * 4) (es.getD i ev0).cells) := hc
  clear hc
  obtain ⟨i0, hi, hz0, hz1, hz2⟩ := info_parts info29
  have hmm := @run_makeMap Try.prog
  go_enter Try.func7, Try.ntmps7
  go_wp2
  have A0 : Acc w (w.alloc (.map #[] 0)) w.heap.size 0 es (.slice none 0 0) := by
    refine ⟨World.ownsMap_made _ _ _ _, World.ownsRow_nil _ _ _ _, fun _ => rfl, (Below.refl _ w).alloc (Nat.le_refl _) _, by simp⟩
  go_loopw [4, 10] (fun v i wr => ∃ k : Nat, k ≤ n ∧ i = .int .i64 k ∧ Acc w wr w.heap.size k es v) (fun _ i _ => n - (intOf i).toNat)
  case atStart => exact ⟨0, Nat.zero_le _, rfl, A0⟩
  case round =>
    obtain ⟨k, hk, rfl, hA⟩ := hrel
    clear A0
    by_cases hlt : k < n
    · have hb : b < w.heap.size := World.block_lt_of_cell? _ _ (range_id (HC.out k hlt))
      have hr : wr.rangeAt b (o + k * 4) (es.getD k ev0).cells := fun i u hu => (hA.bel.cell (p := ⟨b, _, none⟩) hb).trans (HC.out k hlt i u hu)
      have x0 := range_id hr
      have x1 := range_tm hr
      have x2 := range_raw hr
      have x3 := range_mp hr
      have hkey := keyOf_string_mk Try.underlying9 (hid (es.getD k ev0) (by rw [List.getD_eq_getElem?_getD, List.getElem?_eq_getElem (by omega)]; exact List.getElem_mem _))
      have hany := any_key (fst (es.take k)) (es.getD k ev0)
      have hsn := fst_snoc es k (by omega)
      have hseen := hA.seen
      have hown := hA.own
      have hsz := hA.size
      have hfl := fst_len es k (by omega)
      have HA := hA
      have HS : Hid (fst (es.take (k + 1)) = step (fst (es.take k)) (es.getD k ev0)) := hsn
      clear hr hA hsn
      generalize es.getD k ev0 = e at *
      obtain ⟨i1, t1, r1, m1⟩ := e
      simp only at x0 x1 x2 x3 hkey
      have hany' : ((fst (es.take k)).map keyL).any (fun x => x.sameKey (.string i1.data.toList)) = hasId (fst (es.take k)) i1 := hany
      have hseen1 := hseen.alloc (.cells #[.string i1, .string t1, .string r1, .map m1] 29)
      clear hany
      by_cases hh : hasId (fst (es.take k)) i1 = true
      · have hf : Hid (fst (es.take (k + 1)) = fst (es.take k)) := by rw [HS.out]; show _ = _; unfold step; rw [if_pos hh]
        have HA' := HA.skip hf.out (.cells #[.string i1, .string t1, .string r1, .map m1] 29)
        rw [hh] at hany'
        have HY : Hid (((fst (es.take k)).map keyL).any (fun x => x.sameKey (.string i1.data.toList)) = true) := hany'
        clear hany' hh
        go_wp2_with (at_lookup; refine wpList_lookup_set _ rfl _ _ 38 rfl 9 4 law9 Try.underlying38 Try.underlying4 (zero4 _) w.heap.size k ((fst (es.take k)).map keyL) rfl hseen1 _ _ rfl hkey trivial true HY.out ?_)
        go_roundw
        case rel => exact ⟨k + 1, by omega, by go_num, HA'⟩
        case measure => simp [intOf]; omega
      · have hh' : hasId (fst (es.take k)) i1 = false := by simpa using hh
        have hf : Hid (fst (es.take (k + 1)) = fst (es.take k) ++ [⟨i1, t1, r1, m1⟩]) := by rw [HS.out]; show _ = _; unfold step; rw [if_neg hh]
        rw [hh'] at hany'
        have HY : Hid (((fst (es.take k)).map keyL).any (fun x => x.sameKey (.string i1.data.toList)) = false) := hany'
        have hkm : k < maxLen := by unfold maxLen; omega
        have hlm : (fst (es.take k)).length + 1 ≤ maxLen := by unfold maxLen; omega
        have hlb : ((fst (es.take k)).length + 1) * 56 ≤ 140737488355328 := by omega
        clear hany' hh hh'
        have tok1 : True := trivial
        go_wp2_with (first | (at_lookup; refine wpList_lookup_set _ rfl _ _ 38 rfl 9 4 law9 Try.underlying38 Try.underlying4 (zero4 _) w.heap.size k ((fst (es.take k)).map keyL) rfl hseen1 _ _ rfl hkey trivial false HY.out ?_) | (at_mapUpdate; refine wpList_mapUpdate_own _ rfl _ _ _ 38 rfl 9 4 law9 Try.underlying38 _ w.heap.size k _ rfl hseen1 hkm _ _ _ rfl rfl hkey _ [] (plainElem_bool Try.underlying4 true) ?_; intro w1 hs1 g1; obtain ⟨z0, z1, z2, z3⟩ := box_cells g1 hsz; have hown1 := own_past hown g1; have hbase : w.heap.size + 1 ≤ w1.heap.size := Nat.le_trans hsz (Nat.le_trans (by simp) g1.size)) | (at_builtin; refine wpList_append_own _ rfl _ _ 24 rfl (w.heap.size + 1) 29 i0 _ 4 56 Try.underlying24 hi hz0 hz1 hz2 rfl (by decide) _ _ _ rfl (hown1.alloc _) ⟨w1.heap.size, 0, none⟩ 1 1 (Ev.cells ⟨i1, t1, r1, m1⟩) rfl rfl (four_cells _ _ _ _ _) (four_one _ _ _ _) hlm hlb (Nat.le_trans hbase (by simp)) ?_; intro v' w2 ho2 g2 hn2))
        have HA' := HA.add hf.out rfl hs1 g1 ho2 g2
        clear hs1 g1 ho2 g2 hn2
        go_wp2
        go_roundw
        case rel => exact ⟨k + 1, by omega, by go_num, HA'⟩
        case measure => simp [intOf]; omega
    · have HT : Hid (es.take k = es) := List.take_of_length_le (by omega)
      have hown := hA.own
      have hnl := hA.nil
      rw [HT.out] at hown hnl
      have hfin : EvS wr u4 (fst es) := EvS.owned hown
      have hnil : u4 = .slice none 0 0 ↔ n = 0 := by
        constructor
        · intro h
          obtain ⟨a, c1, h1, _⟩ := hfin
          rw [h] at h1
          have : (fst es).length = 0 := by simp at h1; omega
          have := fst_nil this
          omega
        · intro h
          refine hnl ?_
          have := fst_length es
          omega
      have hB := hA.bel
      clear hA hown hnl
      go_wp2
      go_ret
      exact ⟨_, rfl, hfin, hnil, hB⟩
end Go.Proofs.Qxb6630848a
