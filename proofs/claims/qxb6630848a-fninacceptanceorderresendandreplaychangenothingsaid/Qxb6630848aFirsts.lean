/-
  b1TrailFirstLines.
-/
import Derived.Test.Qxb6630848aToo
import Derived.Deep.RegionHeld3
namespace Go.Proofs.Qxb6630848a
open Go.RowKit

set_option maxHeartbeats 1000000 in
theorem firsts_any (v v' : Value) (es : List Ev) (w : World) (hn : es.length ≤ 65536) (hv : EvS w v es) (hv' : EvS w v' (fst es)) (hm : MapsOk w es) :
    Calls Try.prog 10 #[v, v'] w fun e w' => e = .returned (.bool true) ∧ Below w.heap.size w w' := by
  have V : Hid (EvS w v es) := hv
  obtain ⟨a, c, rfl, _, _, h4⟩ := hv
  obtain ⟨a', c', rfl, _, _, h4'⟩ := hv'
  have R : Hid (Rows4 w a es) := h4
  have R' : Hid (Rows4 w a' (fst es)) := h4'
  have S : Hid (MapsOk w es) := hm
  have HN : Hid (es.length ≤ 65536) := hn
  clear h4 h4' hm
  obtain ⟨n, hln⟩ : ∃ n, es.length = n := ⟨_, rfl⟩
  obtain ⟨m, hlm⟩ : ∃ m, (fst es).length = m := ⟨_, rfl⟩
  have hmn : m ≤ n := by have := fst_length es; omega
  rw [hln] at V ⊢
  rw [hlm]
  have hn' : n ≤ 65536 := by omega
  have HM : Hid ((fst es).length = m) := hlm
  clear hlm hn
  go_enter Try.func10, Try.ntmps10
  go_wp2
  go_loopw [5, 6] (fun k i wr => ∃ (p j : Nat), p ≤ j ∧ p ≤ m ∧ j ≤ n ∧ k = .int .i64 p ∧ i = .int .i64 j ∧ Hid ((fst (es.take j)).length = p) ∧ Below w.heap.size w wr) (fun _ i _ => n - (intOf i).toNat)
  case atStart => exact ⟨0, 0, Nat.le_refl _, Nat.zero_le _, Nat.zero_le _, rfl, rfl, rfl, Below.refl _ _⟩
  case round =>
    obtain ⟨p, j, hpj, hpm, hj, rfl, rfl, HP, hB⟩ := hrel
    by_cases hjn : j < n
    · obtain ⟨b, o, rfl, hc⟩ := R.out (by omega)
      have hr : wr.rangeAt b (o + j * 4) (es.getD j ev0).cells := fun i v hv => keeps hB _ _ (hc j (by omega) i v hv)
      have x0 := range_id hr
      have x1 := range_tm hr
      have x2 := range_raw hr
      have x3 := range_mp hr
      have V2 : Hid (EvS wr (.slice (some ⟨b, o, none⟩) n c) es) := V.out.kept (keeps hB)
      clear hr hc
      have hji : (j : Int) < (n : Int) := by omega
      by_cases hh : hasB es j (es.getD j ev0).id = true
      · have HP2 : Hid ((fst (es.take (j + 1))).length = p) := by rw [fst_skip es j (by omega) hh]; exact HP
        have HH : Hid (hasB es j (es.getD j ev0).id = true) := hh
        clear hh
        generalize (es.getD j ev0).id = i1 at *
        generalize (es.getD j ev0).tm = t1 at *
        generalize (es.getD j ev0).raw = r1 at *
        generalize (es.getD j ev0).mp = m1 at *
        go_wp2_with fail
        refine (has_any _ j es i1 _ HN.out V2.out).mono ?_
        rintro e w1 ⟨rfl, h⟩
        obtain rfl := h.symm
        rw [HH.out]
        clear h
        go_wp2
        go_roundw
        case rel => exact ⟨p, j + 1, by omega, by omega, by omega, rfl, by go_num, HP2, hB⟩
        case measure => simp [intOf]; omega
      · have hh' : hasB es j (es.getD j ev0).id = false := by simpa using hh
        obtain ⟨q1, q2, q3, q4⟩ := fst_place es j (by omega) hh'
        have hq := HP.out
        rw [hq] at q2 q3 q4
        have hpm2 : p < m := by have := HM.out; omega
        obtain ⟨b', o', rfl, hc'⟩ := R'.out (by omega)
        have hr' : wr.rangeAt b' (o' + p * 4) (es.getD j ev0).cells := by
          have h := hc' p q2
          rw [q3] at h
          exact fun i v hv => keeps hB _ _ (h i v hv)
        have y0 := range_id hr'
        have y1 := range_tm hr'
        have y2 := range_raw hr'
        have y3 := range_mp hr'
        have HP2 : Hid ((fst (es.take (j + 1))).length = p + 1) := by rw [q1, List.length_append, hq]; rfl
        have HH : Hid (hasB es j (es.getD j ev0).id = false) := hh'
        obtain ⟨L, hL⟩ := S.out (es.getD j ev0) (mem_getD (by omega))
        have HL : Hid (MapIs wr (es.getD j ev0).mp L) := hL.below hB
        clear hh hh' q1 q2 q3 q4 hq hc' hr' hL
        have hd : decide ((m : Int) ≤ (p : Int)) = false := by simp; omega
        have hd2 : decide (m ≤ p) = false := by simp; omega
        have hd3 : ¬ m ≤ p := by omega
        have hpi : (p : Int) < (m : Int) := by omega
        have hsz := hB.size
        generalize (es.getD j ev0).id = i1 at *
        generalize (es.getD j ev0).tm = t1 at *
        generalize (es.getD j ev0).raw = r1 at *
        generalize (es.getD j ev0).mp = m1 at *
        go_wp2_with fail
        refine (has_any _ j es i1 _ HN.out V2.out).mono ?_
        rintro e w1 ⟨rfl, h⟩
        obtain rfl := h.symm
        rw [HH.out]
        clear h
        go_wp2_with fail
        go_region_held3 (fun W => W.cell? ⟨b, o + j * 4, none⟩ = some (.string i1) ∧ W.cell? ⟨b, o + j * 4 + 1, none⟩ = some (.string t1) ∧ W.cell? ⟨b, o + j * 4 + 2, none⟩ = some (.string r1) ∧ W.cell? ⟨b, o + j * 4 + 3, none⟩ = some (.map m1) ∧ W.cell? ⟨b', o' + p * 4, none⟩ = some (.string i1) ∧ W.cell? ⟨b', o' + p * 4 + 1, none⟩ = some (.string t1) ∧ W.cell? ⟨b', o' + p * 4 + 2, none⟩ = some (.string r1) ∧ W.cell? ⟨b', o' + p * 4 + 3, none⟩ = some (.map m1)) (go_keep) (first | (go_at_call 12; refine (same_ev i1 t1 r1 m1 L _ ?_).mono ?_; exact HL.out; rintro e w' ⟨rfl, rfl⟩))
        all_goals
          go_wp2
          go_roundw
          case rel => exact ⟨p + 1, j + 1, by omega, by omega, by omega, by go_num, by go_num, HP2, by repeat (first | exact hB | refine Below.drew ?_ | refine Below.alloc ?_ (by first | omega | (simp; omega)) _)⟩
          case measure => simp [intOf]; omega
    · have hpe : p = m := by
        have h1 := HP.out
        rw [List.take_of_length_le (by omega), HM.out] at h1
        omega
      subst hpe
      go_wp2
      go_ret
      exact ⟨rfl, hB⟩
end Go.Proofs.Qxb6630848a
