/-
  ZZnewEncoder, the getters, the two bounds on length.
-/
import Derived.Test.Qxb6630770aBase
namespace Go.Proofs.Qxb6630770a
open Go.RowKit

theorem enc_any (size sent queued : Int) (a : Option Addr) (n c : Nat) (w : World) :
    Calls Try.prog 7 #[.int .i64 size, .slice a n c, .int .i64 sent, .int .i64 queued] w fun e w' => e = .returned (.pointer (some ⟨w.heap.size, 0, none⟩)) ∧
      w' = w.alloc (.cells #[.int .i64 size, .slice a n c, .int .i64 sent, .int .i64 queued] 33) := by
  go_enter Try.func7, Try.ntmps7
  go_wp2
  go_ret
  exact ⟨rfl, rfl⟩

theorem get_queue (pe : Nat) (a : Option Addr) (n c : Nat) (w : World) (h : w.cell? ⟨pe, 1, none⟩ = some (.slice a n c)) :
    Calls Try.prog 9 #[.pointer (some ⟨pe, 0, none⟩)] w fun e w' => e = .returned (.slice a n c) ∧ w' = w := by
  go_enter Try.func9, Try.ntmps9
  go_wp2
  go_ret
  exact ⟨rfl, rfl⟩
theorem get_size (pe : Nat) (x : Int) (w : World) (h : w.cell? ⟨pe, 0, none⟩ = some (.int .i64 x)) :
    Calls Try.prog 11 #[.pointer (some ⟨pe, 0, none⟩)] w fun e w' => e = .returned (.int .i64 x) ∧ w' = w := by
  go_enter Try.func11, Try.ntmps11
  go_wp2
  go_ret
  exact ⟨rfl, rfl⟩
theorem get_sent (pe : Nat) (x : Int) (w : World) (h : w.cell? ⟨pe, 2, none⟩ = some (.int .i64 x)) :
    Calls Try.prog 12 #[.pointer (some ⟨pe, 0, none⟩)] w fun e w' => e = .returned (.int .i64 x) ∧ w' = w := by
  go_enter Try.func12, Try.ntmps12
  go_wp2
  go_ret
  exact ⟨rfl, rfl⟩
theorem get_queued (pe : Nat) (x : Int) (w : World) (h : w.cell? ⟨pe, 3, none⟩ = some (.int .i64 x)) :
    Calls Try.prog 13 #[.pointer (some ⟨pe, 0, none⟩)] w fun e w' => e = .returned (.int .i64 x) ∧ w' = w := by
  go_enter Try.func13, Try.ntmps13
  go_wp2
  go_ret
  exact ⟨rfl, rfl⟩

/-- The lengths of a queue's packets, as far as a reader of lengths goes. -/
def Lens (w : World) (b off n : Nat) (L : Nat → Nat) : Prop := ∀ i, i < n → L i ≤ 9223372036854775807 ∧ ∃ a c, w.cell? ⟨b, off + i, none⟩ = some (.slice a (L i) c)

/-- It hands back a bool; true says that no length passes the bound. -/
def GivesBool (n : Nat) (L : Nat → Nat) (e : Ending) : Prop := ∃ x, e = .returned (.bool x) ∧ (x = true → ∀ i, i < n → L i ≤ 1048576)
theorem gives_false (n : Nat) (L : Nat → Nat) : GivesBool n L (.returned (.bool false)) := ⟨false, rfl, fun h => by cases h⟩

set_option maxHeartbeats 400000 in
theorem bytes_none (a : Option Addr) (n c : Nat) (s q r : Int) (w : World) (h : ¬ 0 < n) :
    Calls Try.prog 5 #[.int .i64 s, .slice a n c, .int .i64 q, .int .i64 r] w fun e w' => e = .returned (.bool true) ∧ w' = w := by
  go_enter Try.func5, Try.ntmps5
  go_wp2
  refine wp_loop_rounds 1 ?_
  rw [rounds_succ]
  go_wp2
  go_ret
  exact ⟨rfl, rfl⟩

set_option maxHeartbeats 400000 in
theorem bytes_some (b off n c : Nat) (L : Nat → Nat) (s q r : Int) (w : World) (hn : n ≤ 9223372036854775807) (hL : Lens w b off n L) :
    Calls Try.prog 5 #[.int .i64 s, .slice (some ⟨b, off, none⟩) n c, .int .i64 q, .int .i64 r] w fun e w' => GivesBool n L e ∧ w' = w := by
  by_cases hbig : 1048576 < n
  · go_enter Try.func5, Try.ntmps5
    go_wp2
    go_ret
    exact ⟨gives_false _ _, rfl⟩
  go_enter Try.func5, Try.ntmps5
  go_wp2
  go_loop [9, 10] (fun t i => ∃ (k : Nat) (z : Int), k ≤ n ∧ i = .int .i64 k ∧ t = .int .i64 z ∧ 0 ≤ z ∧ z ≤ 1048576 ∧ Hid (∀ i, i < k → L i ≤ 1048576)) (fun _ i => n - (intOf i).toNat)
  case atStart => exact ⟨0, _, Nat.zero_le _, rfl, rfl, by omega, by omega, fun i hi => absurd hi (Nat.not_lt_zero i)⟩
  case round =>
    obtain ⟨k, z, hk, rfl, rfl, hz1, hz2, HK⟩ := hrel
    by_cases hlt : k < n
    · obtain ⟨hm, a, c', hx⟩ := hL k hlt
      have HK' : Hid (L k ≤ 1048576 → ∀ i, i < k + 1 → L i ≤ 1048576) := fun h i hi => by
        by_cases e : i = k
        · subst e; exact h
        · exact HK.out i (by omega)
      generalize L k = l at *
      by_cases h1 : 1048576 < l
      · go_wp2
        go_ret
        exact ⟨gives_false _ _, rfl⟩
      by_cases h2 : 1048576 < z + (l : Int)
      · go_wp2
        go_ret
        exact ⟨gives_false _ _, rfl⟩
      go_wp2
      go_round
      case rel => exact ⟨k + 1, z + l, by omega, by go_num, rfl, by omega, by omega, HK'.out (by omega)⟩
      case measure => simp [intOf]; omega
    · go_wp2
      go_ret
      exact ⟨⟨true, rfl, fun _ i hi => HK.out i (by omega)⟩, rfl⟩
end Go.Proofs.Qxb6630770a
