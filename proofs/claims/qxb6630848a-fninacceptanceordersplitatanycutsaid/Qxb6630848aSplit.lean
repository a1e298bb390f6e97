/-
  FnInAcceptanceOrderSplitAtAnyCut: the walk.
-/
import Derived.Test.Qxb6630848aResend
namespace Go.Proofs.Qxb6630848a
open Go.RowKit

/-- What is gathered so far: the events l in the slice v, from block wx.heap.size on. -/
structure Gat (wx wr : World) (l : List Ev) (v : Value) : Prop where
  own : wr.ownsRow wx.heap.size 29 4 v l.length (flatC l)
  bel : Below wx.heap.size wx wr

theorem Gat.add {wx wr w2 : World} {l : List Ev} {v v' : Value} {e : Ev} {o : Obj} (h : Gat wx wr l v)
    (ho : w2.ownsRow wx.heap.size 29 4 v' (l.length + 1) (flatC l ++ e.cells)) (g2 : (wr.alloc o).grownBy w2 v.ownBlock) : Gat wx w2 (l ++ [e]) v' := by
  refine ⟨?_, ?_⟩
  · rw [List.length_append, flatC_snoc]
    exact ho
  · exact (h.bel.alloc h.bel.size o).grown g2 (by have := h.bel.size; simp; omega) (fun j hj => (h.own.lt j hj).1)

theorem take_snoc (l : List Ev) (j : Nat) (h : j < l.length) : l.take (j + 1) = l.take j ++ [l.getD j ev0] := by
  rw [List.take_succ_eq_append_getElem h]; simp [h]

/-- The accepted events of a, then the first j of b's whose id a does not carry. -/
def wantL (es ds : List Ev) (j : Nat) : List Ev := fst es ++ ((fst ds).take j).filter (fun e => !hasId es e.id)
theorem want_len (es ds : List Ev) (j : Nat) (h : j ≤ (fst ds).length) : (wantL es ds j).length ≤ es.length + j := by
  unfold wantL
  rw [List.length_append]
  have h1 := fst_length es
  have h2 := List.length_filter_le (fun e => !hasId es e.id) ((fst ds).take j)
  rw [List.length_take] at h2
  omega
theorem want_add (es ds : List Ev) (j : Nat) (h : j < (fst ds).length) (hh : hasId es ((fst ds).getD j ev0).id = false) : wantL es ds (j + 1) = wantL es ds j ++ [(fst ds).getD j ev0] := by
  unfold wantL
  rw [take_snoc _ _ h, List.filter_append, List.append_assoc, List.filter_cons, hh]
  rfl
theorem want_skip (es ds : List Ev) (j : Nat) (h : j < (fst ds).length) (hh : hasId es ((fst ds).getD j ev0).id = true) : wantL es ds (j + 1) = wantL es ds j := by
  unfold wantL
  rw [take_snoc _ _ h, List.filter_append, List.filter_cons, hh]
  simp
theorem want_all (es ds : List Ev) (j : Nat) (h : (fst ds).length ≤ j) : wantL es ds j = fst (es ++ ds) := by
  unfold wantL
  rw [List.take_of_length_le h, fst_append]

set_option maxHeartbeats 4000000 in
theorem split_law (v v' : Value) (es ds : List Ev) (w : World) (hv : EvS w v es) (hv' : EvS w v' ds) (hs : SizesOk es) (hs' : SizesOk ds) (hm : MapsOk w es) (hm' : MapsOk w ds) (hn : es.length ≤ maxLen) (hn' : ds.length ≤ maxLen) :
    Calls Try.prog 3 #[v, v'] w fun e w' => e = .returned (.bool true) ∧ Below w.heap.size w w' := by
  have V0 : Hid (EvS w v es) := hv
  have U0 : Hid (EvS w v' ds) := hv'
  have S0 : Hid (SizesOk es ∧ SizesOk ds) := ⟨hs, hs'⟩
  have M0 : Hid (MapsOk w es ∧ MapsOk w ds) := ⟨hm, hm'⟩
  have N0 : Hid (es.length ≤ maxLen ∧ ds.length ≤ maxLen) := ⟨hn, hn'⟩
  clear hv hv' hs hs' hm hm' hn hn'
  obtain ⟨n, hln⟩ : ∃ n, es.length = n := ⟨_, rfl⟩
  obtain ⟨k, hlk⟩ : ∃ k, ds.length = k := ⟨_, rfl⟩
  obtain ⟨a, c, rfl⟩ := V0.out.as hln
  obtain ⟨d, f, rfl⟩ := U0.out.as hlk
  have HL : Hid (es.length = n) := hln
  have HK : Hid (ds.length = k) := hlk
  clear hln hlk
  go_enter Try.func3, Try.ntmps3
  go_wp2_with fail
  refine (big_any _ _ es ds w V0.out U0.out S0.out.1 S0.out.2 M0.out.1 M0.out.2 N0.out.1 N0.out.2).mono ?_
  rintro e w1 ⟨⟨x, rfl, hx⟩, hB1⟩
  have B1 : Hid (Below w.heap.size w w1) := hB1
  clear hB1
  cases x with
  | true =>
    go_wp2
    go_ret
    exact ⟨rfl, B1.out⟩
  | false =>
    have hn4 : n ≤ 4096 := by have := (hx rfl).1; have := HL.out; omega
    have hk4 : k ≤ 4096 := by have := (hx rfl).2; have := HK.out; omega
    have V1 : Hid (EvS w1 (.slice a n c) es) := V0.out.kept (keeps B1.out)
    have U1 : Hid (EvS w1 (.slice d k f) ds) := U0.out.kept (keeps B1.out)
    have M1 : Hid (MapsOk w1 es ∧ MapsOk w1 ds) := ⟨M0.out.1.below B1.out, M0.out.2.below B1.out⟩
    clear hx V0 U0 M0 N0
    obtain ⟨i0, hi, hz0, hz1, hz2⟩ := info_parts info29
    go_wp2_with fail
    refine (events_any _ es w1 (by rw [HL.out]; exact hn4) V1.out).mono ?_
    rintro e wa ⟨v1, rfl, hE, hB⟩
    obtain ⟨a1, c1, rfl⟩ := hE.as HL.out
    have Ea : Hid (EvS wa (.slice a1 n c1) es) := hE
    have Ua : Hid (EvS wa (.slice d k f) ds) := U1.out.kept (keeps hB)
    have Ba : Hid (Below w.heap.size w wa) := B1.out.trans (hB.mono B1.out.size)
    have Ma : Hid (MapsOk wa es ∧ MapsOk wa ds) := ⟨M1.out.1.below hB, M1.out.2.below hB⟩
    clear hE hB B1 M1 V1 U1
    go_wp2_with fail
    refine (events_any _ ds wa (by rw [HK.out]; exact hk4) Ua.out).mono ?_
    rintro e w2 ⟨v2, rfl, hE, hB⟩
    obtain ⟨d1, f1, rfl⟩ := hE.as HK.out
    have D2 : Hid (EvS w2 (.slice d1 k f1) ds) := hE
    have E2 : Hid (EvS w2 (.slice a1 n c1) es) := Ea.out.kept (keeps hB)
    have B2 : Hid (Below w.heap.size w w2) := Ba.out.trans (hB.mono Ba.out.size)
    have M2 : Hid (MapsOk w2 es ∧ MapsOk w2 ds) := ⟨Ma.out.1.below hB, Ma.out.2.below hB⟩
    clear hE hB Ba Ma Ea Ua
    have hfl : Hid ((flatC es).length = n * 4) := flat_len HL.out
    have hfk : Hid ((flatC ds).length = k * 4) := flat_len HK.out
    have hnil : Hid (a1 = none → n = 0 ∧ c1 = 0) := E2.out.isNil
    have knil : Hid (d1 = none → k = 0 ∧ f1 = 0) := D2.out.isNil
    go_wp2_with (first
      | (at_make; refine wpList_make_own _ rfl _ _ 24 rfl w2.heap.size 29 i0 _ 4 Try.underlying24 hi hz0 hz1 .i64 .i64 _ (n + k) rfl rfl (by omega) (by rw [hz2]; omega) (by unfold maxLen; omega) (Nat.le_refl _) ?_; intro w3 hown3 g3; have C3 : Hid (Below w2.heap.size w2 w3) := (Below.refl _ w2).grown g3 (Nat.le_refl _) (fun k hk => by cases hk); have E3 : Hid (EvS w3 (.slice a1 n c1) es) := E2.out.kept (keeps C3.out); clear g3)
      | (at_builtin; refine wpList_append_fits_any _ rfl _ _ 24 rfl w2.heap.size 29 i0 4 Try.underlying24 hi hz1 w2.heap.size n (n + k) _ rfl hown4 d1 k f1 (flatC ds) rfl hfk.out knil.out E4.out.src (flat_one ds) (Nat.le_refl _) ?_; intro w5 hown5 g5; have C5 : Hid (Below w2.heap.size w2 w5) := C4.out.grown g5 C4.out.size (fun k hk => by cases hk; exact Nat.le_refl _); clear g5)
      | (at_builtin; refine wpList_append_fits_any _ rfl _ _ 24 rfl w2.heap.size 29 i0 4 Try.underlying24 hi hz1 w2.heap.size 0 (n + k) [] rfl hown3 a1 n c1 (flatC es) rfl hfl.out hnil.out E3.out.src (flat_one es) (by omega) ?_; intro w4 hown4 g4; rw [Nat.zero_add n] at hown4 ⊢; have C4 : Hid (Below w2.heap.size w2 w4) := C3.out.grown g4 C3.out.size (fun k hk => by cases hk; exact Nat.le_refl _); have E4 : Hid (EvS w4 (.slice d1 k f1) ds) := D2.out.kept (keeps C4.out); clear g4))
    have B5 : Hid (Below w.heap.size w w5) := B2.out.trans (C5.out.mono B2.out.size)
    have E5 : Hid (EvS w5 (.slice a1 n c1) es) := E2.out.kept (keeps C5.out)
    have D5 : Hid (EvS w5 (.slice d1 k f1) ds) := D2.out.kept (keeps C5.out)
    have M5 : Hid (MapsOk w5 es ∧ MapsOk w5 ds) := ⟨M2.out.1.below C5.out, M2.out.2.below C5.out⟩
    have X5 : Hid (EvS w5 (.slice (some ⟨w2.heap.size, 0, none⟩) (n + k) (n + k)) (es ++ ds)) := by
      have e : (es ++ ds).length = n + k := by rw [List.length_append, HL.out, HK.out]
      exact EvS.owned (by rw [e, flat_append]; exact hown5)
    clear hown3 hown4 hown5 C3 C4 C5 E3 E4 E2 D2 B2 M2 hfl hfk hnil knil
    refine (order_any _ es w5 (by rw [HL.out]; omega) E5.out S0.out.1.ids).mono ?_
    rintro e w6 ⟨v2, rfl, hR, -, hB⟩
    obtain ⟨p, hlp⟩ : ∃ p, (fst es).length = p := ⟨_, rfl⟩
    obtain ⟨a2, c2, rfl⟩ := hR.as hlp
    have HP : Hid ((fst es).length = p) := hlp
    have hpn : p ≤ n := by have := fst_length es; have := HL.out; omega
    have R6 : Hid (EvS w6 (.slice a2 p c2) (fst es)) := hR
    have B6 : Hid (Below w.heap.size w w6) := B5.out.trans (hB.mono B5.out.size)
    have E6 : Hid (EvS w6 (.slice a1 n c1) es) := E5.out.kept (keeps hB)
    have D6 : Hid (EvS w6 (.slice d1 k f1) ds) := D5.out.kept (keeps hB)
    have X6 : Hid (EvS w6 (.slice (some ⟨w2.heap.size, 0, none⟩) (n + k) (n + k)) (es ++ ds)) := X5.out.kept (keeps hB)
    have M6 : Hid (MapsOk w6 es ∧ MapsOk w6 ds) := ⟨M5.out.1.below hB, M5.out.2.below hB⟩
    clear hR hB hlp B5 E5 D5 X5 M5
    go_wp2_with fail
    refine (order_any _ ds w6 (by rw [HK.out]; omega) D6.out S0.out.2.ids).mono ?_
    rintro e w7 ⟨v2, rfl, hR, -, hB⟩
    obtain ⟨q, hlq⟩ : ∃ q, (fst ds).length = q := ⟨_, rfl⟩
    obtain ⟨d2, f2, rfl⟩ := hR.as hlq
    have HQ : Hid ((fst ds).length = q) := hlq
    have hqk : q ≤ k := by have := fst_length ds; have := HK.out; omega
    have T7 : Hid (EvS w7 (.slice d2 q f2) (fst ds)) := hR
    have R7 : Hid (EvS w7 (.slice a2 p c2) (fst es)) := R6.out.kept (keeps hB)
    have B7 : Hid (Below w.heap.size w w7) := B6.out.trans (hB.mono B6.out.size)
    have E7 : Hid (EvS w7 (.slice a1 n c1) es) := E6.out.kept (keeps hB)
    have D7 : Hid (EvS w7 (.slice d1 k f1) ds) := D6.out.kept (keeps hB)
    have X7 : Hid (EvS w7 (.slice (some ⟨w2.heap.size, 0, none⟩) (n + k) (n + k)) (es ++ ds)) := X6.out.kept (keeps hB)
    have M7 : Hid (MapsOk w7 es ∧ MapsOk w7 ds) := ⟨M6.out.1.below hB, M6.out.2.below hB⟩
    clear hR hB hlq R6 B6 E6 D6 X6 M6
    go_wp2_with fail
    refine (order_any _ (es ++ ds) w7 (by rw [List.length_append, HL.out, HK.out]; omega) X7.out (S0.out.1.ids.append S0.out.2.ids)).mono ?_
    rintro e w8 ⟨v2, rfl, hR, -, hB⟩
    obtain ⟨r, hlr⟩ : ∃ r, (fst (es ++ ds)).length = r := ⟨_, rfl⟩
    obtain ⟨a3, c3, rfl⟩ := hR.as hlr
    have HR : Hid ((fst (es ++ ds)).length = r) := hlr
    have hrn : r ≤ n + k := by have := fst_length (es ++ ds); rw [List.length_append, HL.out, HK.out] at this; omega
    have Z8 : Hid (EvS w8 (.slice a3 r c3) (fst (es ++ ds))) := hR
    have T8 : Hid (EvS w8 (.slice d2 q f2) (fst ds)) := T7.out.kept (keeps hB)
    have R8 : Hid (EvS w8 (.slice a2 p c2) (fst es)) := R7.out.kept (keeps hB)
    have B8 : Hid (Below w.heap.size w w8) := B7.out.trans (hB.mono B7.out.size)
    have E8 : Hid (EvS w8 (.slice a1 n c1) es) := E7.out.kept (keeps hB)
    have D8 : Hid (EvS w8 (.slice d1 k f1) ds) := D7.out.kept (keeps hB)
    have M8 : Hid (MapsOk w8 es ∧ MapsOk w8 ds) := ⟨M7.out.1.below hB, M7.out.2.below hB⟩
    clear hR hB hlr T7 R7 B7 E7 D7 X7 M7
    go_wp2_with fail
    have G0 : Hid (Gat w8 w8 ((fst es).take 0) (.slice none 0 0)) := ⟨World.ownsRow_nil _ _ _ _, Below.refl _ _⟩
    go_loopw [11, 12] (fun u i wr => ∃ j : Nat, j ≤ p ∧ i = .int .i64 j ∧ Hid (Gat w8 wr ((fst es).take j) u)) (fun _ i _ => p - (intOf i).toNat)
    case atStart => exact ⟨0, Nat.zero_le _, rfl, G0⟩
    case round =>
      obtain ⟨j, hj, rfl, G⟩ := hrel
      clear G0
      by_cases hjp : j < p
      · obtain ⟨b, o, rfl, hc⟩ := R8.out.rows (by omega)
        have hr : wr.rangeAt b (o + j * 4) ((fst es).getD j ev0).cells := fun i v hv => keeps G.out.bel _ _ (hc j hjp i v hv)
        have x0 := range_id hr
        have x1 := range_tm hr
        have x2 := range_raw hr
        have x3 := range_mp hr
        have hji : (j : Int) < (p : Int) := by omega
        have HT : Hid ((fst es).take (j + 1) = (fst es).take j ++ [(fst es).getD j ev0]) := take_snoc _ _ (by rw [HP.out]; exact hjp)
        have hll : ((fst es).take j).length ≤ 65536 := by rw [List.length_take]; omega
        clear hr hc
        obtain ⟨ev, hev⟩ : ∃ ev, (fst es).getD j ev0 = ev := ⟨_, rfl⟩
        rw [hev] at x0 x1 x2 x3 HT
        obtain ⟨i1, t1, r1, m1⟩ := ev
        simp only at x0 x1 x2 x3
        clear hev
        obtain ⟨l, hl⟩ : ∃ l, (fst es).take j = l := ⟨_, rfl⟩
        rw [hl] at G HT hll
        clear hl
        have hown := G.out.own
        have hlm : l.length + 1 ≤ maxLen := by unfold maxLen; omega
        have hlb : (l.length + 1) * 56 ≤ 140737488355328 := by omega
        have hbase := G.out.bel.size
        go_wp2_with (at_builtin; refine wpList_append_own _ rfl _ _ 24 rfl w8.heap.size 29 i0 _ 4 56 Try.underlying24 hi hz0 hz1 hz2 rfl (by decide) _ _ _ rfl (hown.alloc _) ⟨wr.heap.size, 0, none⟩ 1 1 (Ev.cells ⟨i1, t1, r1, m1⟩) rfl rfl (four_cells _ _ _ _ _) (four_one _ _ _ _) hlm hlb (Nat.le_trans hbase (by simp)) ?_; intro v' wn ho2 g2 hn2)
        have HG : Hid (Gat w8 wn ((fst es).take (j + 1)) v') := by
          show Gat w8 wn ((fst es).take (j + 1)) v'
          rw [HT.out]
          exact G.out.add ho2 g2
        clear ho2 g2 hn2 hown hlm hlb
        go_wp2
        go_roundw
        case rel => exact ⟨j + 1, by omega, by go_num, HG⟩
        case measure => simp [intOf]; omega
      · have G1 : Hid (Gat w8 wr (wantL es ds 0) u11) := by
          have h := G.out
          rw [List.take_of_length_le (by rw [HP.out]; omega)] at h
          unfold wantL
          rw [List.take_zero, List.filter_nil, List.append_nil]
          exact h
        clear G
        go_wp2
        rename World => wo
        go_loopw [11, 13] (fun u i wr => ∃ j : Nat, j ≤ q ∧ i = .int .i64 j ∧ Hid (Gat w8 wr (wantL es ds j) u)) (fun _ i _ => q - (intOf i).toNat)
        case atStart => exact ⟨0, Nat.zero_le _, rfl, G1⟩
        case round =>
          clear hj hjp G1
          obtain ⟨y, hy, rfl, G⟩ := hrel
          by_cases hyq : y < q
          · obtain ⟨b, o, rfl, hc⟩ := T8.out.rows (by omega)
            have hr : wr.rangeAt b (o + y * 4) ((fst ds).getD y ev0).cells := fun i v hv => keeps G.out.bel _ _ (hc y hyq i v hv)
            have x0 := range_id hr
            have x1 := range_tm hr
            have x2 := range_raw hr
            have x3 := range_mp hr
            have hyi : (y : Int) < (q : Int) := by omega
            have hll : (wantL es ds y).length ≤ 65536 := by have := want_len es ds y (by rw [HQ.out]; exact hy); have := HL.out; omega
            have V2 : Hid (EvS wr (.slice a1 n c1) es) := E8.out.kept (keeps G.out.bel)
            have HN : Hid (hasB es n ((fst ds).getD y ev0).id = hasId es ((fst ds).getD y ev0).id) := by
              show hasB es n ((fst ds).getD y ev0).id = hasId es ((fst ds).getD y ev0).id
              rw [hasB_is, List.take_of_length_le (by rw [HL.out]; exact Nat.le_refl _)]
            by_cases hh : hasId es ((fst ds).getD y ev0).id = true
            · have HT : Hid (wantL es ds (y + 1) = wantL es ds y) := want_skip es ds y (by rw [HQ.out]; exact hyq) hh
              have HH : Hid (hasB es n ((fst ds).getD y ev0).id = true) := HN.out.trans hh
              clear hr hc hh HN
              generalize ((fst ds).getD y ev0).id = i1 at *
              generalize ((fst ds).getD y ev0).tm = t1 at *
              generalize ((fst ds).getD y ev0).raw = r1 at *
              generalize ((fst ds).getD y ev0).mp = m1 at *
              have HG : Hid (Gat w8 wr (wantL es ds (y + 1)) u11) := by rw [HT.out]; exact G
              go_wp2_with fail
              refine (has_any _ n es i1 _ (by rw [HL.out]; omega) V2.out).mono ?_
              rintro e w1 ⟨rfl, h⟩
              obtain rfl := h.symm
              rw [HH.out]
              clear h
              go_wp2
              go_roundw
              case rel => exact ⟨y + 1, by omega, by go_num, HG⟩
              case measure => simp [intOf]; omega
            · have hh' : hasId es ((fst ds).getD y ev0).id = false := by simpa using hh
              have HT : Hid (wantL es ds (y + 1) = wantL es ds y ++ [(fst ds).getD y ev0]) := want_add es ds y (by rw [HQ.out]; exact hyq) hh'
              have HH : Hid (hasB es n ((fst ds).getD y ev0).id = false) := HN.out.trans hh'
              clear hr hc hh hh' HN
              obtain ⟨ev, hev⟩ : ∃ ev, (fst ds).getD y ev0 = ev := ⟨_, rfl⟩
              rw [hev] at x0 x1 x2 x3 HT HH
              obtain ⟨i1, t1, r1, m1⟩ := ev
              simp only at x0 x1 x2 x3 HH
              clear hev
              obtain ⟨l, hl⟩ : ∃ l, wantL es ds y = l := ⟨_, rfl⟩
              rw [hl] at G HT hll
              clear hl
              have hown := G.out.own
              have hlm : l.length + 1 ≤ maxLen := by unfold maxLen; omega
              have hlb : (l.length + 1) * 56 ≤ 140737488355328 := by omega
              have hbase := G.out.bel.size
              go_wp2_with fail
              refine (has_any _ n es i1 _ (by rw [HL.out]; omega) V2.out).mono ?_
              rintro e w1 ⟨rfl, h⟩
              obtain rfl := h.symm
              rw [HH.out]
              clear h
              go_wp2_with (at_builtin; refine wpList_append_own _ rfl _ _ 24 rfl w8.heap.size 29 i0 _ 4 56 Try.underlying24 hi hz0 hz1 hz2 rfl (by decide) _ _ _ rfl (hown.alloc _) ⟨wr.heap.size, 0, none⟩ 1 1 (Ev.cells ⟨i1, t1, r1, m1⟩) rfl rfl (four_cells _ _ _ _ _) (four_one _ _ _ _) hlm hlb (Nat.le_trans hbase (by simp)) ?_; intro v' wn ho2 g2 hn2)
              have HG : Hid (Gat w8 wn (wantL es ds (y + 1)) v') := by
                show Gat w8 wn (wantL es ds (y + 1)) v'
                rw [HT.out]
                exact G.out.add ho2 g2
              clear ho2 g2 hn2 hown hlm hlb
              go_wp2
              go_roundw
              case rel => exact ⟨y + 1, by omega, by go_num, HG⟩
              case measure => simp [intOf]; omega
          · have W9 : Hid (EvS wr u11 (fst (es ++ ds))) := by
              have h := EvS.owned G.out.own
              rw [want_all es ds y (by rw [HQ.out]; omega)] at h
              exact h
            obtain ⟨a4, c4, rfl⟩ := W9.out.as HR.out
            have hB := G.out.bel
            have Z9 : Hid (EvS wr (.slice a3 r c3) (fst (es ++ ds))) := Z8.out.kept (keeps hB)
            have T9 : Hid (EvS wr (.slice d2 q f2) (fst ds)) := T8.out.kept (keeps hB)
            have R9 : Hid (EvS wr (.slice a2 p c2) (fst es)) := R8.out.kept (keeps hB)
            have B9 : Hid (Below w.heap.size w wr) := B8.out.trans (hB.mono B8.out.size)
            have E9 : Hid (EvS wr (.slice a1 n c1) es) := E8.out.kept (keeps hB)
            have D9 : Hid (EvS wr (.slice d1 k f1) ds) := D8.out.kept (keeps hB)
            have M9 : Hid (MapsOk wr es ∧ MapsOk wr ds) := ⟨M8.out.1.below hB, M8.out.2.below hB⟩
            have MM : Hid (MapsOk wr (fst (es ++ ds))) := fun e he => (List.mem_append.1 (mem_fst he)).elim (M9.out.1 e) (M9.out.2 e)
            clear hB Z8 T8 R8 B8 E8 D8 M8 hi hz0 hz1 hz2
            go_wp2_with fail
            refine (slist_any _ _ (fst (es ++ ds)) wr (by rw [HR.out]; omega) Z9.out W9.out MM.out).mono ?_
            rintro e wx ⟨rfl, hB⟩
            have TX : Hid (EvS wx (.slice d2 q f2) (fst ds)) := T9.out.kept (keeps hB)
            have RX : Hid (EvS wx (.slice a2 p c2) (fst es)) := R9.out.kept (keeps hB)
            have BX : Hid (Below w.heap.size w wx) := B9.out.trans (hB.mono B9.out.size)
            have EX : Hid (EvS wx (.slice a1 n c1) es) := E9.out.kept (keeps hB)
            have DX : Hid (EvS wx (.slice d1 k f1) ds) := D9.out.kept (keeps hB)
            have MX : Hid (MapsOk wx es ∧ MapsOk wx ds) := ⟨M9.out.1.below hB, M9.out.2.below hB⟩
            clear hB T9 R9 B9 E9 D9 M9 MM Z9 W9
            go_wp2_with fail
            refine (firsts_any _ _ es wx (by rw [HL.out]; omega) EX.out RX.out MX.out.1).mono ?_
            rintro e wy ⟨rfl, hB⟩
            have TY : Hid (EvS wy (.slice d2 q f2) (fst ds)) := TX.out.kept (keeps hB)
            have BY : Hid (Below w.heap.size w wy) := BX.out.trans (hB.mono BX.out.size)
            have DY : Hid (EvS wy (.slice d1 k f1) ds) := DX.out.kept (keeps hB)
            have MY : Hid (MapsOk wy ds) := MX.out.2.below hB
            clear hB TX RX BX EX DX MX
            go_wp2_with fail
            refine (firsts_any _ _ ds wy (by rw [HK.out]; omega) DY.out TY.out MY.out).mono ?_
            rintro e wz ⟨rfl, hB⟩
            have BZ : Hid (Below w.heap.size w wz) := BY.out.trans (hB.mono BY.out.size)
            clear hB
            go_wp2
            go_ret
            exact ⟨rfl, BZ.out⟩
end Go.Proofs.Qxb6630848a
