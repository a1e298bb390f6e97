/-
  b1TrailTooBig.
-/
import Derived.Test.Qxb6630848aBig
namespace Go.Proofs.Qxb6630848a
open Go.RowKit

def SizesOk (es : List Ev) : Prop := ∀ e, e ∈ es → e.id.size ≤ maxLen ∧ e.tm.size ≤ maxLen ∧ e.raw.size ≤ maxLen

/-- The guard's answer: where it is false, both lists are short. -/
def BigOut (e : Ending) (n m : Nat) : Prop := ∃ x : Bool, e = .returned (.bool x) ∧ (x = false → n ≤ 4096 ∧ m ≤ 4096)

theorem mem_getD {es : List Ev} {j : Nat} (h : j < es.length) : es.getD j ev0 ∈ es := by
  rw [List.getD_eq_getElem?_getD, List.getElem?_eq_getElem h]; exact List.getElem_mem _

/-- The rows of a slice of events. -/
def Rows4 (w : World) (a : Option Addr) (es : List Ev) : Prop := 0 < es.length → ∃ b o, a = some ⟨b, o, none⟩ ∧ ∀ i, i < es.length → w.rangeAt b (o + i * 4) (es.getD i ev0).cells

set_option maxHeartbeats 4000000 in
theorem big_any (v v' : Value) (es es' : List Ev) (w : World) (hv : EvS w v es) (hv' : EvS w v' es') (hs : SizesOk es) (hs' : SizesOk es') (hm : MapsOk w es) (hm' : MapsOk w es') (hn : es.length ≤ maxLen) (hn' : es'.length ≤ maxLen) :
    Calls Try.prog 5 #[v, v'] w fun e w' => BigOut e es.length es'.length ∧ Below w.heap.size w w' := by
  obtain ⟨a, c, rfl, _, _, h4⟩ := hv
  obtain ⟨a', c', rfl, _, _, h4'⟩ := hv'
  have R : Hid (Rows4 w a es) := h4
  have R' : Hid (Rows4 w a' es') := h4'
  have S : Hid (SizesOk es ∧ SizesOk es' ∧ MapsOk w es ∧ MapsOk w es') := ⟨hs, hs', hm, hm'⟩
  clear h4 h4' hs hs' hm hm'
  unfold maxLen at hn hn'
  obtain ⟨n, hln⟩ : ∃ n, es.length = n := ⟨_, rfl⟩
  obtain ⟨m, hlm⟩ : ∃ m, es'.length = m := ⟨_, rfl⟩
  rw [hln] at hn
  rw [hlm] at hn'
  rw [hln, hlm]
  by_cases g1 : 4096 < n
  · go_enter Try.func5, Try.ntmps5
    go_wp2
    go_ret
    exact ⟨⟨true, rfl, fun h => by cases h⟩, Below.refl _ _⟩
  by_cases g2 : 4096 < m
  · go_enter Try.func5, Try.ntmps5
    go_wp2
    go_ret
    exact ⟨⟨true, rfl, fun h => by cases h⟩, Below.refl _ _⟩
  go_enter Try.func5, Try.ntmps5
  go_wp2
  go_loopw [5, 6, 7] (fun t k i wr => ∃ (T : Int) (j : Nat), 0 ≤ T ∧ T ≤ 1048576 ∧ j ≤ n ∧ t = .int .i64 T ∧ i = .int .i64 j ∧ Below w.heap.size w wr) (fun _ _ i _ => n - (intOf i).toNat)
  case atStart => exact ⟨0, 0, by omega, by omega, Nat.zero_le _, rfl, rfl, Below.refl _ _⟩
  case round =>
    obtain ⟨T, j, hT, hT2, hj, rfl, rfl, hB⟩ := hrel
    by_cases hjn : j < n
    · obtain ⟨b, o, rfl, hc⟩ := R.out (by omega)
      have hr : wr.rangeAt b (o + j * 4) (es.getD j ev0).cells := fun i v hv => keeps hB _ _ (hc j (by omega) i v hv)
      have x0 := range_id hr
      have x1 := range_tm hr
      have x2 := range_raw hr
      have x3 := range_mp hr
      have hmem : es.getD j ev0 ∈ es := mem_getD (by omega)
      obtain ⟨L, hL⟩ := S.out.2.2.1 _ hmem
      have HL : Hid (MapIs wr (es.getD j ev0).mp L) := hL.below hB
      have HS : Hid ((es.getD j ev0).id.size ≤ maxLen ∧ (es.getD j ev0).tm.size ≤ maxLen ∧ (es.getD j ev0).raw.size ≤ maxLen) := S.out.1 _ hmem
      clear hr hL hc hmem
      generalize (es.getD j ev0).id = i1 at *
      generalize (es.getD j ev0).tm = t1 at *
      generalize (es.getD j ev0).raw = r1 at *
      generalize (es.getD j ev0).mp = m1 at *
      go_wp2_with fail
      refine (addev_any T i1 t1 r1 m1 L _ hT hT2 HS.out.1 HS.out.2.1 HS.out.2.2 HL.out).mono ?_
      rintro e w1 ⟨⟨t2, ok2, rfl, hk2⟩, hB2⟩
      have hB3 : Below w.heap.size w w1 := hB.trans (hB2.mono hB.size)
      clear hB2
      cases ok2 with
      | false =>
        go_wp2
        go_ret
        exact ⟨⟨true, rfl, fun h => by cases h⟩, hB3⟩
      | true =>
        obtain ⟨b1, b2⟩ := hk2 rfl
        clear hk2
        go_wp2
        go_roundw
        case rel => exact ⟨t2, j + 1, b1, b2, by omega, rfl, by go_num, hB3⟩
        case measure => simp [intOf]; omega
    · go_wp2
      rename World => wo
      clear R
      go_loopw [5, 6, 8] (fun t k i wr => ∃ (T : Int) (j : Nat), 0 ≤ T ∧ T ≤ 1048576 ∧ j ≤ m ∧ t = .int .i64 T ∧ i = .int .i64 j ∧ Below w.heap.size w wr) (fun _ _ i _ => m - (intOf i).toNat)
      case atStart => exact ⟨T, 0, hT, hT2, Nat.zero_le _, rfl, rfl, hB⟩
      case round =>
        clear hB hT hT2
        obtain ⟨T, q, hT, hT2, hq, rfl, rfl, hB⟩ := hrel
        by_cases hqm : q < m
        · obtain ⟨b, o, rfl, hc⟩ := R'.out (by omega)
          have hr : wr.rangeAt b (o + q * 4) (es'.getD q ev0).cells := fun i v hv => keeps hB _ _ (hc q (by omega) i v hv)
          have x0 := range_id hr
          have x1 := range_tm hr
          have x2 := range_raw hr
          have x3 := range_mp hr
          have hmem : es'.getD q ev0 ∈ es' := mem_getD (by omega)
          obtain ⟨L, hL⟩ := S.out.2.2.2 _ hmem
          have HL : Hid (MapIs wr (es'.getD q ev0).mp L) := hL.below hB
          have HS : Hid ((es'.getD q ev0).id.size ≤ maxLen ∧ (es'.getD q ev0).tm.size ≤ maxLen ∧ (es'.getD q ev0).raw.size ≤ maxLen) := S.out.2.1 _ hmem
          clear hr hL hc hmem
          generalize (es'.getD q ev0).id = i1 at *
          generalize (es'.getD q ev0).tm = t1 at *
          generalize (es'.getD q ev0).raw = r1 at *
          generalize (es'.getD q ev0).mp = m1 at *
          go_wp2_with fail
          refine (addev_any T i1 t1 r1 m1 L _ hT hT2 HS.out.1 HS.out.2.1 HS.out.2.2 HL.out).mono ?_
          rintro e w1 ⟨⟨t2, ok2, rfl, hk2⟩, hB2⟩
          have hB3 : Below w.heap.size w w1 := hB.trans (hB2.mono hB.size)
          clear hB2
          cases ok2 with
          | false =>
            go_wp2
            go_ret
            exact ⟨⟨true, rfl, fun h => by cases h⟩, hB3⟩
          | true =>
            obtain ⟨b1, b2⟩ := hk2 rfl
            clear hk2
            go_wp2
            go_roundw
            case rel => exact ⟨t2, q + 1, b1, b2, by omega, rfl, by go_num, hB3⟩
            case measure => simp [intOf]; omega
        · go_wp2
          go_ret
          exact ⟨⟨false, rfl, fun _ => ⟨by omega, by omega⟩⟩, hB⟩
end Go.Proofs.Qxb6630848a
