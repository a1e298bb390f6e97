/-
  b1TrailAdd, b1TrailAddEv, b1TrailTooBig.
-/
import Derived.Test.Qxb6630848aEvents
namespace Go.Proofs.Qxb6630848a
open Go.RowKit

/-- A total and whether it is within the bound. -/
def AddOut (e : Ending) : Prop := ∃ (t : Int) (ok : Bool), e = .returned (.tuple #[.int .i64 t, .bool ok]) ∧ (ok = true → 0 ≤ t ∧ t ≤ 1048576)

theorem add_any (t n : Int) (w : World) (h0 : 0 ≤ t) (h1 : t ≤ 1048576) (hn : 0 ≤ n) (hn2 : n ≤ 9223372036854775807) :
    Calls Try.prog 14 #[.int .i64 t, .int .i64 n] w fun e w' => AddOut e ∧ w' = w := by
  by_cases g1 : 1048576 < n
  · go_enter Try.func14, Try.ntmps14
    go_wp2
    go_ret2
    exact ⟨⟨_, false, rfl, fun h => by cases h⟩, rfl⟩
  by_cases g2 : 1048576 < t + n
  · go_enter Try.func14, Try.ntmps14
    go_wp2
    go_ret2
    exact ⟨⟨_, false, rfl, fun h => by cases h⟩, rfl⟩
  go_enter Try.func14, Try.ntmps14
  go_wp2
  go_ret2
  exact ⟨⟨t + n, true, rfl, fun _ => ⟨by omega, by omega⟩⟩, rfl⟩

set_option maxHeartbeats 4000000 in
theorem addev_any (t : Int) (i tm r : ByteArray) (m : Option Nat) (L : Nat) (w : World) (h0 : 0 ≤ t) (h1 : t ≤ 1048576) (hi : i.size ≤ maxLen) (ht : tm.size ≤ maxLen) (hr : r.size ≤ maxLen) (hm : MapIs w m L) :
    Calls Try.prog 13 #[.int .i64 t, .agg #[.string i, .string tm, .string r, .map m]] w fun e w' => AddOut e ∧ Below w.heap.size w w' := by
  unfold maxLen at hi ht hr
  have hb : Below w.heap.size w (w.alloc (.cells #[.string i, .string tm, .string r, .map m] 37)) := (Below.refl _ w).alloc (Nat.le_refl _) _
  have hlen := (hm.below hb).len 3
  by_cases g1 : 65536 < L
  · go_enter Try.func13, Try.ntmps13
    go_wp2
    go_ret2
    exact ⟨⟨_, false, rfl, fun h => by cases h⟩, hb⟩
  go_enter Try.func13, Try.ntmps13
  go_wp2_with fail
  refine (add_any t 56 _ h0 h1 (by omega) (by omega)).mono ?_
  rintro e w1 ⟨⟨t1, ok1, rfl, hk1⟩, h⟩
  obtain rfl := h.symm
  clear h
  cases ok1 with
  | false =>
    go_wp2_with fail
    go_ret2
    exact ⟨⟨_, false, rfl, fun h => by cases h⟩, hb⟩
  | true =>
    obtain ⟨a1, a2⟩ := hk1 rfl
    clear hk1
    go_wp2_with fail
    refine (add_any t1 i.size _ a1 a2 (by omega) (by omega)).mono ?_
    rintro e w1 ⟨⟨t2, ok2, rfl, hk2⟩, h⟩
    obtain rfl := h.symm
    clear h
    cases ok2 with
    | false =>
      go_wp2_with fail
      go_ret2
      exact ⟨⟨_, false, rfl, fun h => by cases h⟩, hb⟩
    | true =>
      obtain ⟨b1, b2⟩ := hk2 rfl
      clear hk2
      go_wp2_with fail
      refine (add_any t2 tm.size _ b1 b2 (by omega) (by omega)).mono ?_
      rintro e w1 ⟨⟨t3, ok3, rfl, hk3⟩, h⟩
      obtain rfl := h.symm
      clear h
      cases ok3 with
      | false =>
        go_wp2_with fail
        go_ret2
        exact ⟨⟨_, false, rfl, fun h => by cases h⟩, hb⟩
      | true =>
        obtain ⟨c1, c2⟩ := hk3 rfl
        clear hk3
        go_wp2_with fail
        refine (add_any t3 r.size _ c1 c2 (by omega) (by omega)).mono ?_
        rintro e w1 ⟨⟨t4, ok4, rfl, hk4⟩, h⟩
        obtain rfl := h.symm
        clear h
        cases ok4 with
        | false =>
          go_wp2_with fail
          go_ret2
          exact ⟨⟨_, false, rfl, fun h => by cases h⟩, hb⟩
        | true =>
          obtain ⟨d1, d2⟩ := hk4 rfl
          clear hk4
          go_wp2_with fail
          refine (add_any t4 (16 * L) _ d1 d2 (by omega) (by omega)).mono ?_
          rintro e w1 ⟨⟨t5, ok5, rfl, hk5⟩, h⟩
          obtain rfl := h.symm
          clear h
          go_wp2_with fail
          go_ret2
          exact ⟨⟨_, _, rfl, hk5⟩, hb⟩
end Go.Proofs.Qxb6630848a
