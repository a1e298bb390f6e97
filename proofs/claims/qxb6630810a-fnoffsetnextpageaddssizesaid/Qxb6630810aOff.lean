/-
  Page.Offset and satAddOffsets.
-/
import Derived.Test.Qxb6630810aRows
import Derived.WalkKit
import Derived.Deep.QuietTactic
import Derived.BigQuiet
import Derived.RegionTactic
import Derived.Test.Qxb6630810aPlain
namespace Go.Proofs.Qxb6630810a
open Go.RowKit

theorem off_sat (n s : Int) (w : World) (h1 : 1 ≤ n) (h2 : n ≤ 9223372036854775807) (hs : 1 ≤ s) (hs2 : s ≤ 9223372036854775807) (h : 9223372036854775807 / s < n - 1) :
    Calls Try.prog 5 #[.agg #[.int .i64 n, .int .i64 s]] w fun e w' => e = .returned (.int .i64 9223372036854775807) ∧ Grown w w' := by
  go_enter Try.func5, Try.ntmps5
  go_wp2
  go_region
  all_goals
    go_wp2
    go_ret
    exact ⟨rfl, by repeat (first | exact Grown.refl _ | apply Grown.drew | apply Grown.alloc)⟩

theorem off_ok (n s : Int) (w : World) (h1 : 1 ≤ n) (h2 : n ≤ 9223372036854775807) (hs : 1 ≤ s) (hs2 : s ≤ 9223372036854775807) (h : ¬ 9223372036854775807 / s < n - 1) (h0 : 0 ≤ (n - 1) * s) (hm : (n - 1) * s ≤ 9223372036854775807) :
    Calls Try.prog 5 #[.agg #[.int .i64 n, .int .i64 s]] w fun e w' => e = .returned (.int .i64 ((n - 1) * s)) ∧ Grown w w' := by
  go_enter Try.func5, Try.ntmps5
  go_wp2
  go_region
  all_goals
    go_wp2
    go_ret
    exact ⟨rfl, by repeat (first | exact Grown.refl _ | apply Grown.drew | apply Grown.alloc)⟩

theorem sat_top (a b : Int) (w : World) (_ha : 0 ≤ a) (_ha2 : a ≤ 9223372036854775807) (hb : 0 ≤ b) (hb2 : b ≤ 9223372036854775807) (h : 9223372036854775807 - b < a) :
    Calls Try.prog 6 #[.int .i64 a, .int .i64 b] w fun e w' => e = .returned (.int .i64 9223372036854775807) ∧ Grown w w' := by
  go_enter Try.func6, Try.ntmps6
  go_wp2
  go_ret
  exact ⟨rfl, Grown.refl _⟩

theorem sat_ok (a b : Int) (w : World) (_ha : 0 ≤ a) (_ha2 : a ≤ 9223372036854775807) (hb : 0 ≤ b) (hb2 : b ≤ 9223372036854775807) (h : ¬ 9223372036854775807 - b < a) :
    Calls Try.prog 6 #[.int .i64 a, .int .i64 b] w fun e w' => e = .returned (.int .i64 (a + b)) ∧ Grown w w' := by
  go_enter Try.func6, Try.ntmps6
  go_wp2
  go_ret
  exact ⟨rfl, Grown.refl _⟩

theorem off_any (n s : Int) (w : World) (h1 : 1 ≤ n) (h2 : n ≤ 9223372036854775807) (hs : 1 ≤ s) (hs2 : s ≤ 9223372036854775807) :
    Calls Try.prog 5 #[.agg #[.int .i64 n, .int .i64 s]] w fun e w' => e = .returned (.int .i64 (offI n s)) ∧ Grown w w' := by
  have h0 : 0 ≤ (n - 1) * s := Int.mul_nonneg (by omega) (by omega)
  by_cases h : 9223372036854775807 / s < n - 1
  · rw [offI_sat n s hs h]
    exact off_sat n s w h1 h2 hs hs2 h
  · have hm := le_of_div n s hs h
    rw [offI_ok n s hm]
    exact off_ok n s w h1 h2 hs hs2 h h0 hm

theorem sat_any (a b : Int) (w : World) (ha : 0 ≤ a) (ha2 : a ≤ 9223372036854775807) (hb : 0 ≤ b) (hb2 : b ≤ 9223372036854775807) :
    Calls Try.prog 6 #[.int .i64 a, .int .i64 b] w fun e w' => e = .returned (.int .i64 (satI a b)) ∧ Grown w w' := by
  by_cases h : 9223372036854775807 - b < a
  · rw [satI, if_neg (by omega)]
    exact sat_top a b w ha ha2 hb hb2 h
  · rw [satI, if_pos (by omega)]
    exact sat_ok a b w ha ha2 hb hb2 h

theorem grown_on {a b c : World} (h : Grown a b) (k : Grown b c) : Grown a c :=
  ⟨World.keptBut_trans h.1 k.1, fun x => (k.2.1 x).trans (h.2.1 x), Nat.le_trans h.2.2 k.2.2⟩
end Go.Proofs.Qxb6630810a
