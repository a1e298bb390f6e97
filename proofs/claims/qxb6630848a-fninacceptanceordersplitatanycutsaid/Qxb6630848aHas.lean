/-
  b1TrailHasIDBefore, b1TrailIndexOfID, b1TrailSameList.
-/
import Derived.Test.Qxb6630848aBase
import Derived.Deep.RegionWith
namespace Go.Proofs.Qxb6630848a
open Go.RowKit

/-- Does one of the first k events bear this id? -/
def hasB (es : List Ev) (k : Nat) (id : ByteArray) : Bool := (es.take k).any (fun e => e.id.toList == id.toList)

theorem hasB_snoc (es : List Ev) (k : Nat) (id : ByteArray) (h : k < es.length) : hasB es (k + 1) id = (hasB es k id || ((es.getD k ev0).id.toList == id.toList)) := by
  unfold hasB
  rw [List.take_succ_eq_append_getElem h, List.any_append]
  simp [h]
theorem hasB_mono (es : List Ev) (j m : Nat) (id : ByteArray) (h : j ≤ m) (ht : hasB es j id = true) : hasB es m id = true := by
  unfold hasB at *
  rw [List.any_eq_true] at *
  obtain ⟨e, he, h1⟩ := ht
  exact ⟨e, List.take_subset_take_left es h he, h1⟩
theorem hasB_all (es : List Ev) (j m : Nat) (id : ByteArray) (h : es.length ≤ j) (hm : es.length ≤ m) : hasB es m id = hasB es j id := by
  unfold hasB
  rw [List.take_of_length_le h, List.take_of_length_le hm]

theorem has_none (a : Option Addr) (n c m : Nat) (id : ByteArray) (w : World) (hn : ¬ 0 < n) :
    Calls Try.prog 8 #[.slice a n c, .int .i64 m, .string id] w fun e w' => e = .returned (.bool false) ∧ w' = w := by
  by_cases h0 : 0 < m
  · go_enter Try.func8, Try.ntmps8
    go_wp2
    refine wp_loop_rounds 1 ?_
    rw [rounds_succ]
    go_wp2
    go_ret
    exact ⟨rfl, rfl⟩
  · go_enter Try.func8, Try.ntmps8
    go_wp2
    refine wp_loop_rounds 1 ?_
    rw [rounds_succ]
    go_wp2
    go_ret
    exact ⟨rfl, rfl⟩

set_option maxHeartbeats 800000 in
theorem has_some (b o n c m : Nat) (es : List Ev) (id : ByteArray) (w : World) (hl : es.length = n) (hn : n ≤ 65536)
    (hc : ∀ i, i < n → w.rangeAt b (o + i * 4) (es.getD i ev0).cells) :
    Calls Try.prog 8 #[.slice (some ⟨b, o, none⟩) n c, .int .i64 m, .string id] w fun e w' => e = .returned (.bool (hasB es m id)) ∧ w' = w := by
  have HC : Hid (∀ i, i < n → w.rangeAt b (o + i * 4) (es.getD i ev0).cells) := hc
  clear hc
  go_enter Try.func8, Try.ntmps8
  go_wp2
  go_loop [7] (fun i => ∃ j : Nat, j ≤ n ∧ j ≤ m ∧ i = .int .i64 j ∧ Hid (hasB es j id = false)) (fun i => n - (intOf i).toNat)
  case atStart => exact ⟨0, Nat.zero_le _, Nat.zero_le _, rfl, rfl⟩
  case round =>
    obtain ⟨j, hj, hjm, rfl, HB⟩ := hrel
    by_cases h2 : j < m
    · by_cases h1 : j < n
      · have hx := range_id (HC.out j h1)
        have hs := hasB_snoc es j id (by omega)
        rw [HB.out, Bool.false_or] at hs
        generalize (es.getD j ev0).id = s at *
        by_cases he : (s.toList == id.toList) = true
        · have HF : Hid (hasB es m id = true) := hasB_mono es (j + 1) m id (by omega) (hs.trans he)
          clear hs
          go_wp2
          go_ret
          rw [HF.out]
          exact ⟨rfl, rfl⟩
        · have he' : (s.toList == id.toList) = false := by simpa using he
          have HF : Hid (hasB es (j + 1) id = false) := hs.trans he'
          clear hs he
          go_wp2
          go_round
          case rel => exact ⟨j + 1, by omega, by omega, by go_num, HF⟩
          case measure => simp [intOf]; omega
      · have HF : Hid (hasB es m id = false) := (hasB_all es j m id (by omega) (by omega)).trans HB.out
        go_wp2
        go_ret
        rw [HF.out]
        exact ⟨rfl, rfl⟩
    · have hjm' : j = m := by omega
      have HF : Hid (hasB es m id = false) := by rw [← hjm']; exact HB
      clear hjm'
      go_wp2
      go_ret
      rw [HF.out]
      exact ⟨rfl, rfl⟩

theorem has_any (v : Value) (m : Nat) (es : List Ev) (id : ByteArray) (w : World) (hn : es.length ≤ 65536) (hv : EvS w v es) :
    Calls Try.prog 8 #[v, .int .i64 m, .string id] w fun e w' => e = .returned (.bool (hasB es m id)) ∧ w' = w := by
  obtain ⟨a, c, rfl, _, _, h4⟩ := hv
  by_cases h0 : 0 < es.length
  · obtain ⟨b, o, rfl, hc⟩ := h4 h0
    exact has_some b o es.length c m es id w rfl hn hc
  · have e : hasB es m id = false := by simp [hasB, List.eq_nil_of_length_eq_zero (show es.length = 0 by omega)]
    rw [e]
    exact has_none a es.length c m id w h0

set_option maxHeartbeats 800000 in
theorem idx_at (b o n c p : Nat) (es : List Ev) (id : ByteArray) (w : World) (hl : es.length = n) (hn : n ≤ 65536)
    (hc : ∀ i, i < n → w.rangeAt b (o + i * 4) (es.getD i ev0).cells) (hp : p < n) (h1 : hasB es p id = false) (h2 : ((es.getD p ev0).id.toList == id.toList) = true) :
    Calls Try.prog 11 #[.slice (some ⟨b, o, none⟩) n c, .string id] w fun e w' => e = .returned (.int .i64 p) ∧ w' = w := by
  have HC : Hid (∀ i, i < n → w.rangeAt b (o + i * 4) (es.getD i ev0).cells) := hc
  have H1 : Hid (hasB es p id = false) := h1
  have H2 : Hid (((es.getD p ev0).id.toList == id.toList) = true) := h2
  clear hc h1 h2
  go_enter Try.func11, Try.ntmps11
  go_wp2
  go_loop [5] (fun i => ∃ j : Nat, j ≤ p ∧ i = .int .i64 j) (fun i => p - (intOf i).toNat)
  case atStart => exact ⟨0, Nat.zero_le _, rfl⟩
  case round =>
    obtain ⟨j, hj, rfl⟩ := hrel
    have hx := range_id (HC.out j (by omega))
    by_cases hjp : j < p
    · have he : ((es.getD j ev0).id.toList == id.toList) = false := by
        have h3 := hasB_snoc es j id (by omega)
        by_cases h4 : ((es.getD j ev0).id.toList == id.toList) = true
        · rw [h4, Bool.or_true] at h3
          have h5 := hasB_mono es (j + 1) p id (by omega) h3
          rw [H1.out] at h5
          cases h5
        · simpa using h4
      generalize (es.getD j ev0).id = s at *
      go_wp2
      go_round
      case rel => exact ⟨j + 1, by omega, by go_num⟩
      case measure => simp [intOf]; omega
    · have hjp' : j = p := by omega
      subst hjp'
      have he := H2.out
      generalize (es.getD j ev0).id = s at *
      go_wp2
      go_ret
      exact ⟨rfl, rfl⟩

theorem slist_none (a a' : Option Addr) (n c c' : Nat) (w : World) (hn : ¬ 0 < n) :
    Calls Try.prog 9 #[.slice a n c, .slice a' n c'] w fun e w' => e = .returned (.bool true) ∧ Below w.heap.size w w' := by
  go_enter Try.func9, Try.ntmps9
  go_wp2
  refine wp_loop_rounds 1 ?_
  rw [rounds_succ]
  go_wp2
  go_ret
  exact ⟨rfl, Below.refl _ _⟩

set_option maxHeartbeats 2000000 in
theorem slist_some (b o b' o' n c c' : Nat) (es : List Ev) (w : World) (hl : es.length = n) (hn : n ≤ 65536)
    (hc : ∀ i, i < n → w.rangeAt b (o + i * 4) (es.getD i ev0).cells) (hc' : ∀ i, i < n → w.rangeAt b' (o' + i * 4) (es.getD i ev0).cells) (hm : MapsOk w es) :
    Calls Try.prog 9 #[.slice (some ⟨b, o, none⟩) n c, .slice (some ⟨b', o', none⟩) n c'] w fun e w' => e = .returned (.bool true) ∧ Below w.heap.size w w' := by
  have HC : Hid (∀ i, i < n → w.rangeAt b (o + i * 4) (es.getD i ev0).cells) := hc
  have HC' : Hid (∀ i, i < n → w.rangeAt b' (o' + i * 4) (es.getD i ev0).cells) := hc'
  clear hc hc'
  go_enter Try.func9, Try.ntmps9
  go_wp2
  go_loopw [5] (fun i wr => ∃ j : Nat, j ≤ n ∧ i = .int .i64 j ∧ Below w.heap.size w wr) (fun i _ => n - (intOf i).toNat)
  case atStart => exact ⟨0, Nat.zero_le _, rfl, Below.refl _ _⟩
  case round =>
    obtain ⟨j, hj, rfl, hB⟩ := hrel
    by_cases hjn : j < n
    · have hr : wr.rangeAt b (o + j * 4) (es.getD j ev0).cells := fun i v hv => keeps hB _ _ (HC.out j hjn i v hv)
      have hr' : wr.rangeAt b' (o' + j * 4) (es.getD j ev0).cells := fun i v hv => keeps hB _ _ (HC'.out j hjn i v hv)
      have x0 := range_id hr
      have x1 := range_tm hr
      have x2 := range_raw hr
      have x3 := range_mp hr
      have y0 := range_id hr'
      have y1 := range_tm hr'
      have y2 := range_raw hr'
      have y3 := range_mp hr'
      obtain ⟨L, hL⟩ := hm (es.getD j ev0) (by rw [List.getD_eq_getElem?_getD, List.getElem?_eq_getElem (by omega)]; exact List.getElem_mem _)
      have HL : Hid (MapIs wr (es.getD j ev0).mp L) := hL.below hB
      have hji : (j : Int) < (n : Int) := by omega
      have hsz := hB.size
      clear hr hr' hL
      generalize (es.getD j ev0).id = i1 at *
      generalize (es.getD j ev0).tm = t1 at *
      generalize (es.getD j ev0).raw = r1 at *
      generalize (es.getD j ev0).mp = m1 at *
      go_wp2_with fail
      go_region_with (go_at_call 12; refine (same_ev i1 t1 r1 m1 L _ ?_).mono ?_; exact HL.out; rintro e w' ⟨rfl, rfl⟩)
      all_goals
        go_wp2
        go_roundw
        case rel => exact ⟨j + 1, by omega, by go_num, by repeat (first | exact hB | refine Below.drew ?_ | refine Below.alloc ?_ (by first | omega | (simp; omega)) _)⟩
        case measure => simp [intOf]; omega
    · go_wp2
      go_ret
      exact ⟨rfl, hB⟩

theorem slist_any (v v' : Value) (es : List Ev) (w : World) (hn : es.length ≤ 65536) (hv : EvS w v es) (hv' : EvS w v' es) (hm : MapsOk w es) :
    Calls Try.prog 9 #[v, v'] w fun e w' => e = .returned (.bool true) ∧ Below w.heap.size w w' := by
  obtain ⟨a, c, rfl, _, _, h4⟩ := hv
  obtain ⟨a', c', rfl, _, _, h4'⟩ := hv'
  by_cases h0 : 0 < es.length
  · obtain ⟨b, o, rfl, hc⟩ := h4 h0
    obtain ⟨b', o', rfl, hc'⟩ := h4' h0
    exact slist_some b o b' o' es.length c c' es w rfl hn hc hc' hm
  · exact slist_none a a' es.length c c' w h0

theorem idx_any (v : Value) (p : Nat) (es : List Ev) (id : ByteArray) (w : World) (hn : es.length ≤ 65536) (hv : EvS w v es) (hp : p < es.length) (h1 : hasB es p id = false) (h2 : ((es.getD p ev0).id.toList == id.toList) = true) :
    Calls Try.prog 11 #[v, .string id] w fun e w' => e = .returned (.int .i64 p) ∧ w' = w := by
  obtain ⟨a, c, rfl, _, _, h4⟩ := hv
  obtain ⟨b, o, rfl, hc⟩ := h4 (by omega)
  exact idx_at b o es.length c p es id w rfl hn hc hp h1 h2
end Go.Proofs.Qxb6630848a
