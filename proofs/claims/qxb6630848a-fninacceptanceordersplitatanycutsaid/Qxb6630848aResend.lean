/-
  FnInAcceptanceOrderResendAndReplayChangeNothing: the walk.
-/
import Derived.Test.Qxb6630848aJoin
namespace Go.Proofs.Qxb6630848a
open Go.RowKit

theorem SizesOk.ids {es : List Ev} (h : SizesOk es) : IdsOk es := fun e he => (h e he).1
theorem IdsOk.fst {es : List Ev} (h : IdsOk es) : IdsOk (fst es) := fun e he => h e (mem_fst he)
theorem IdsOk.append {a b : List Ev} (h : IdsOk a) (k : IdsOk b) : IdsOk (a ++ b) := fun e he => (List.mem_append.1 he).elim (h e) (k e)
theorem MapsOk.fst {w : World} {es : List Ev} (h : MapsOk w es) : MapsOk w (fst es) := fun e he => h e (mem_fst he)

set_option maxHeartbeats 4000000 in
theorem resend_law (v : Value) (es : List Ev) (w : World) (hv : EvS w v es) (hs : SizesOk es) (hm : MapsOk w es) (hn : es.length ≤ maxLen) :
    Calls Try.prog 4 #[v] w fun e w' => e = .returned (.bool true) ∧ Below w.heap.size w w' := by
  have V0 : Hid (EvS w v es) := hv
  have S0 : Hid (SizesOk es) := hs
  have M0 : Hid (MapsOk w es) := hm
  have N0 : Hid (es.length ≤ maxLen) := hn
  clear hv hs hm hn
  obtain ⟨n, hln⟩ : ∃ n, es.length = n := ⟨_, rfl⟩
  obtain ⟨a, c, rfl⟩ := V0.out.as hln
  have HL : Hid (es.length = n) := hln
  clear hln
  go_enter Try.func4, Try.ntmps4
  go_wp2_with fail
  refine (big_any _ _ es [] w V0.out (EvS.nil w) S0.out (fun e he => by cases he) M0.out (fun e he => by cases he) N0.out (Nat.zero_le _)).mono ?_
  rintro e w1 ⟨⟨x, rfl, hx⟩, hB1⟩
  have B1 : Hid (Below w.heap.size w w1) := hB1
  clear hB1
  cases x with
  | true =>
    go_wp2
    go_ret
    exact ⟨rfl, B1.out⟩
  | false =>
    have hn4 : n ≤ 4096 := by have := (hx rfl).1; have := HL.out; omega
    have V1 : Hid (EvS w1 (.slice a n c) es) := V0.out.kept (keeps B1.out)
    have M1 : Hid (MapsOk w1 es) := M0.out.below B1.out
    clear hx V0 M0
    obtain ⟨i0, hi, hz0, hz1, hz2⟩ := info_parts info29
    go_wp2_with fail
    refine (events_any _ es w1 (by rw [HL.out]; exact hn4) V1.out).mono ?_
    rintro e w2 ⟨v1, rfl, hE, hB⟩
    obtain ⟨a1, c1, rfl⟩ := hE.as HL.out
    have E2 : Hid (EvS w2 (.slice a1 n c1) es) := hE
    have B2 : Hid (Below w.heap.size w w2) := B1.out.trans (hB.mono B1.out.size)
    have M2 : Hid (MapsOk w2 es) := M1.out.below hB
    clear hE hB B1 M1 V1
    have hfl : Hid ((flatC es).length = n * 4) := flat_len HL.out
    have hnil : Hid (a1 = none → n = 0 ∧ c1 = 0) := E2.out.isNil
    go_wp2_with (first
      | (at_make; refine wpList_make_own _ rfl _ _ 24 rfl w2.heap.size 29 i0 _ 4 Try.underlying24 hi hz0 hz1 .i64 .i64 _ (2 * n) rfl rfl (by omega) (by rw [hz2]; omega) (by unfold maxLen; omega) (Nat.le_refl _) ?_; intro w3 hown3 g3; have C3 : Hid (Below w2.heap.size w2 w3) := (Below.refl _ w2).grown g3 (Nat.le_refl _) (fun k hk => by cases hk); have E3 : Hid (EvS w3 (.slice a1 n c1) es) := E2.out.kept (keeps C3.out); clear g3)
      | (at_builtin; refine wpList_append_fits_any _ rfl _ _ 24 rfl w2.heap.size 29 i0 4 Try.underlying24 hi hz1 w2.heap.size n (2 * n) _ rfl hown4 a1 n c1 (flatC es) rfl hfl.out hnil.out E4.out.src (flat_one es) (by omega) ?_; intro w5 hown5 g5; have C5 : Hid (Below w2.heap.size w2 w5) := C4.out.grown g5 C4.out.size (fun k hk => by cases hk; exact Nat.le_refl _); clear g5)
      | (at_builtin; refine wpList_append_fits_any _ rfl _ _ 24 rfl w2.heap.size 29 i0 4 Try.underlying24 hi hz1 w2.heap.size 0 (2 * n) [] rfl hown3 a1 n c1 (flatC es) rfl hfl.out hnil.out E3.out.src (flat_one es) (by omega) ?_; intro w4 hown4 g4; rw [Nat.zero_add n] at hown4 ⊢; have C4 : Hid (Below w2.heap.size w2 w4) := C3.out.grown g4 C3.out.size (fun k hk => by cases hk; exact Nat.le_refl _); have E4 : Hid (EvS w4 (.slice a1 n c1) es) := E2.out.kept (keeps C4.out); clear g4))
    have B5 : Hid (Below w.heap.size w w5) := B2.out.trans (C5.out.mono B2.out.size)
    have E5 : Hid (EvS w5 (.slice a1 n c1) es) := E2.out.kept (keeps C5.out)
    have M5 : Hid (MapsOk w5 es) := M2.out.below C5.out
    have X5 : Hid (EvS w5 (.slice (some ⟨w2.heap.size, 0, none⟩) (n + n) (2 * n)) (es ++ es)) := by
      have e : (es ++ es).length = n + n := by rw [List.length_append, HL.out]
      exact EvS.owned (by rw [e, flat_append]; exact hown5)
    clear hown3 hown4 hown5 C3 C4 C5 E3 E4 E2 B2 M2
    have hn6 : n ≤ 65536 := by omega
    refine (order_any _ es w5 (by rw [HL.out]; exact hn6) E5.out S0.out.ids).mono ?_
    rintro e w6 ⟨v2, rfl, hR, hnilR, hB⟩
    obtain ⟨m, hlm⟩ : ∃ m, (fst es).length = m := ⟨_, rfl⟩
    obtain ⟨a2, c2, rfl⟩ := hR.as hlm
    have HM : Hid ((fst es).length = m) := hlm
    have hmn : m ≤ n := by have := fst_length es; have := HL.out; omega
    have hz : a2.isNone = ((n : Int) == 0) := by
      by_cases h0 : n = 0
      · have h := hnilR.2 (HL.out.trans h0)
        injection h with h1 h2 h3
        rw [h1]; simp [h0]
      · cases ha : a2 with
        | some _ => simp [h0]
        | none =>
          obtain ⟨z1, z2⟩ := hR.isNil ha
          exfalso
          apply h0
          rw [← HL.out]
          apply hnilR.1
          rw [ha, z1, z2]
    have R6 : Hid (EvS w6 (.slice a2 m c2) (fst es)) := hR
    have B6 : Hid (Below w.heap.size w w6) := B5.out.trans (hB.mono B5.out.size)
    have E6 : Hid (EvS w6 (.slice a1 n c1) es) := E5.out.kept (keeps hB)
    have X6 : Hid (EvS w6 (.slice (some ⟨w2.heap.size, 0, none⟩) (n + n) (2 * n)) (es ++ es)) := X5.out.kept (keeps hB)
    have M6 : Hid (MapsOk w6 es) := M5.out.below hB
    have h24 := q24
    clear hR hnilR hB hlm B5 E5 X5 M5
    go_wp2_with fail
    refine (order_any _ (es ++ es) w6 (by rw [List.length_append, HL.out]; omega) X6.out (S0.out.ids.append S0.out.ids)).mono ?_
    rw [fst_twice]
    rintro e w7 ⟨v3, rfl, hR, _, hB⟩
    obtain ⟨a3, c3, rfl⟩ := hR.as HM.out
    have Y7 : Hid (EvS w7 (.slice a3 m c3) (fst es)) := hR
    have R7 : Hid (EvS w7 (.slice a2 m c2) (fst es)) := R6.out.kept (keeps hB)
    have B7 : Hid (Below w.heap.size w w7) := B6.out.trans (hB.mono B6.out.size)
    have E7 : Hid (EvS w7 (.slice a1 n c1) es) := E6.out.kept (keeps hB)
    have M7 : Hid (MapsOk w7 es) := M6.out.below hB
    clear hR hB R6 B6 E6 X6 M6 hz
    go_wp2_with fail
    refine (slist_any _ _ (fst es) w7 (by rw [HM.out]; omega) Y7.out R7.out M7.out.fst).mono ?_
    rintro e w8 ⟨rfl, hB⟩
    have R8 : Hid (EvS w8 (.slice a2 m c2) (fst es)) := R7.out.kept (keeps hB)
    have B8 : Hid (Below w.heap.size w w8) := B7.out.trans (hB.mono B7.out.size)
    have E8 : Hid (EvS w8 (.slice a1 n c1) es) := E7.out.kept (keeps hB)
    have M8 : Hid (MapsOk w8 es) := M7.out.below hB
    clear hB Y7 R7 B7 E7 M7
    go_wp2_with fail
    refine (order_any _ (fst es) w8 (by rw [HM.out]; omega) R8.out S0.out.ids.fst).mono ?_
    rw [fst_fst]
    rintro e w9 ⟨v4, rfl, hR, _, hB⟩
    obtain ⟨a4, c4, rfl⟩ := hR.as HM.out
    have Y9 : Hid (EvS w9 (.slice a4 m c4) (fst es)) := hR
    have R9 : Hid (EvS w9 (.slice a2 m c2) (fst es)) := R8.out.kept (keeps hB)
    have B9 : Hid (Below w.heap.size w w9) := B8.out.trans (hB.mono B8.out.size)
    have E9 : Hid (EvS w9 (.slice a1 n c1) es) := E8.out.kept (keeps hB)
    have M9 : Hid (MapsOk w9 es) := M8.out.below hB
    clear hR hB R8 B8 E8 M8
    go_wp2_with fail
    refine (slist_any _ _ (fst es) w9 (by rw [HM.out]; omega) Y9.out R9.out M9.out.fst).mono ?_
    rintro e wx ⟨rfl, hB⟩
    have RX : Hid (EvS wx (.slice a2 m c2) (fst es)) := R9.out.kept (keeps hB)
    have BX : Hid (Below w.heap.size w wx) := B9.out.trans (hB.mono B9.out.size)
    have EX : Hid (EvS wx (.slice a1 n c1) es) := E9.out.kept (keeps hB)
    have MX : Hid (MapsOk wx es) := M9.out.below hB
    clear hB Y9 R9 B9 E9 M9 hi hz0 hz1 hz2 hfl hnil h24
    go_wp2_with fail
    go_loop [6] (fun i => ∃ j : Nat, j ≤ m ∧ i = .int .i64 j) (fun i => m - (intOf i).toNat)
    case atStart => exact ⟨0, Nat.zero_le _, rfl⟩
    case round =>
      obtain ⟨j, hj, rfl⟩ := hrel
      by_cases hjm : j < m
      · obtain ⟨b, o, rfl, hc⟩ := RX.out.rows (by omega)
        have x0 := range_id (hc j hjm)
        have hji : (j : Int) < (m : Int) := by omega
        have HH : Hid (hasB (fst es) j ((fst es).getD j ev0).id = false) := apart_fst es j (by rw [HM.out]; exact hjm)
        clear hc
        generalize ((fst es).getD j ev0).id = i1 at *
        go_wp2_with fail
        refine (has_any _ j (fst es) i1 _ (by rw [HM.out]; omega) RX.out).mono ?_
        rintro e w1 ⟨rfl, h⟩
        obtain rfl := h.symm
        rw [HH.out]
        clear h
        go_wp2
        go_round
        case rel => exact ⟨j + 1, by omega, by go_num⟩
        case measure => simp [intOf]; omega
      · go_wp2
        go_loopw [7, 8] (fun k i wr => ∃ (p j : Nat), p ≤ j ∧ p ≤ m ∧ j ≤ n ∧ k = .int .i64 p ∧ i = .int .i64 j ∧ Hid ((fst (es.take j)).length = p) ∧ Hid (Below wx.heap.size wx wr)) (fun _ i _ => n - (intOf i).toNat)
        case atStart => exact ⟨0, 0, Nat.le_refl _, Nat.zero_le _, Nat.zero_le _, rfl, rfl, rfl, Below.refl _ _⟩
        case round =>
          clear hj hjm
          rename Nat => j0
          obtain ⟨p, j, hpj, hpm, hj, rfl, rfl, HP, HB⟩ := hrel
          by_cases hjn : j < n
          · obtain ⟨b, o, rfl, hc⟩ := EX.out.rows (by omega)
            have hr : wr.rangeAt b (o + j * 4) (es.getD j ev0).cells := fun i v hv => keeps HB.out _ _ (hc j (by omega) i v hv)
            have x0 := range_id hr
            have x1 := range_tm hr
            have x2 := range_raw hr
            have x3 := range_mp hr
            have V2 : Hid (EvS wr (.slice (some ⟨b, o, none⟩) n c1) es) := EX.out.kept (keeps HB.out)
            clear hr hc
            have hji : (j : Int) < (n : Int) := by omega
            by_cases hh : hasB es j (es.getD j ev0).id = true
            · have HP2 : Hid ((fst (es.take (j + 1))).length = p) := by rw [fst_skip es j (by rw [HL.out]; exact hjn) hh]; exact HP
              have HH : Hid (hasB es j (es.getD j ev0).id = true) := hh
              clear hh
              generalize (es.getD j ev0).id = i1 at *
              generalize (es.getD j ev0).tm = t1 at *
              generalize (es.getD j ev0).raw = r1 at *
              generalize (es.getD j ev0).mp = m1 at *
              go_wp2_with fail
              refine (has_any _ j es i1 _ (by rw [HL.out]; exact hn6) V2.out).mono ?_
              rintro e w1 ⟨rfl, h⟩
              obtain rfl := h.symm
              rw [HH.out]
              clear h
              go_wp2
              go_roundw
              case rel => exact ⟨p, j + 1, by omega, by omega, by omega, rfl, by go_num, HP2, HB⟩
              case measure => simp [intOf]; omega
            · have hh' : hasB es j (es.getD j ev0).id = false := by simpa using hh
              obtain ⟨q1, q2, q3, q4⟩ := fst_place es j (by rw [HL.out]; exact hjn) hh'
              have hq := HP.out
              rw [hq] at q2 q3 q4
              have hpm2 : p < m := by have := HM.out; omega
              obtain ⟨b', o', rfl, hc'⟩ := RX.out.rows (by omega)
              have hr' : wr.rangeAt b' (o' + p * 4) (es.getD j ev0).cells := by
                have h := hc' p hpm2
                rw [q3] at h
                exact fun i v hv => keeps HB.out _ _ (h i v hv)
              have y0 := range_id hr'
              have y1 := range_tm hr'
              have y2 := range_raw hr'
              have y3 := range_mp hr'
              have HP2 : Hid ((fst (es.take (j + 1))).length = p + 1) := by rw [q1, List.length_append, hq]; rfl
              have HH : Hid (hasB es j (es.getD j ev0).id = false) := hh'
              have HI : Hid (hasB (fst es) p (es.getD j ev0).id = false) := by
                show hasB (fst es) p (es.getD j ev0).id = false
                rw [hasB_is, q4, hasId_fst]
                exact hh'
              have HJ : Hid ((((fst es).getD p ev0).id.toList == (es.getD j ev0).id.toList) = true) := by
                show (((fst es).getD p ev0).id.toList == (es.getD j ev0).id.toList) = true
                rw [q3]; exact BEq.rfl
              obtain ⟨L, hL⟩ := MX.out (es.getD j ev0) (mem_getD (by rw [HL.out]; exact hjn))
              have HMP : Hid (MapIs wr (es.getD j ev0).mp L) := hL.below HB.out
              have R2 : Hid (EvS wr (.slice (some ⟨b', o', none⟩) m c2) (fst es)) := RX.out.kept (keeps HB.out)
              clear hh hh' q1 q2 q3 q4 hq hc' hr' hL
              have hd : decide ((p : Int) < 0) = false := by simp
              have hd3 : ¬ (p : Int) < 0 := by omega
              have hpi : (p : Int) < (m : Int) := by omega
              have hsz := HB.out.size
              generalize (es.getD j ev0).id = i1 at *
              generalize (es.getD j ev0).tm = t1 at *
              generalize (es.getD j ev0).raw = r1 at *
              generalize (es.getD j ev0).mp = m1 at *
              go_wp2_with fail
              refine (has_any _ j es i1 _ (by rw [HL.out]; exact hn6) V2.out).mono ?_
              rintro e w1 ⟨rfl, h⟩
              obtain rfl := h.symm
              rw [HH.out]
              clear h
              go_wp2_with fail
              refine (idx_any _ p (fst es) i1 _ (by rw [HM.out]; omega) R2.out (by rw [HM.out]; exact hpm2) HI.out HJ.out).mono ?_
              rintro e w1 ⟨rfl, h⟩
              obtain rfl := h.symm
              clear h
              go_wp2_with fail
              go_region_held3 (fun W => W.cell? ⟨b, o + j * 4, none⟩ = some (.string i1) ∧ W.cell? ⟨b, o + j * 4 + 1, none⟩ = some (.string t1) ∧ W.cell? ⟨b, o + j * 4 + 2, none⟩ = some (.string r1) ∧ W.cell? ⟨b, o + j * 4 + 3, none⟩ = some (.map m1) ∧ W.cell? ⟨b', o' + p * 4, none⟩ = some (.string i1) ∧ W.cell? ⟨b', o' + p * 4 + 1, none⟩ = some (.string t1) ∧ W.cell? ⟨b', o' + p * 4 + 2, none⟩ = some (.string r1) ∧ W.cell? ⟨b', o' + p * 4 + 3, none⟩ = some (.map m1)) (go_keep) (first | (go_at_call 12; refine (same_ev i1 t1 r1 m1 L _ ?_).mono ?_; exact HMP.out; rintro e w' ⟨rfl, rfl⟩))
              all_goals
                go_wp2
                go_roundw
                case rel => exact ⟨p + 1, j + 1, by omega, by omega, by omega, by go_num, by go_num, HP2, by show Below _ _ _; repeat (first | exact HB.out | refine Below.drew ?_ | refine Below.alloc ?_ (by first | omega | (simp; omega)) _)⟩
                case measure => simp [intOf]; omega
          · have hpe : p = m := by
              have h1 := HP.out
              rw [List.take_of_length_le (by rw [HL.out]; omega), HM.out] at h1
              omega
            subst hpe
            go_wp2
            go_ret
            exact ⟨rfl, BX.out.trans (HB.out.mono BX.out.size)⟩
end Go.Proofs.Qxb6630848a
