/-
  FnKeepDetachesPacketsFromCaller: the walk where there is no packet.
-/
import Derived.Test.Qxb6630770aOver
namespace Go.Proofs.Qxb6630770a
open Go.RowKit

set_option maxHeartbeats 400000 in
theorem clone_empty (x : Addr) (c : Nat) (w : World) :
    Calls Try.prog 6 #[.slice (some x) 0 c] w fun e w' => e = .returned (.slice (some ⟨w.heap.size, 0, none⟩) 0 0) ∧ Below w.heap.size w w' := by
  have h22 := q22
  have hmk : ∀ w, (Instr.makeSlice 22 (.int .i64 0) (.int .i64 0)).run Try.prog w = .ok (.slice (some ⟨w.heap.size, 0, none⟩) 0 0) (w.alloc (.cells (madeCells #[.slice none 0 0] 0) 24)) :=
    fun w => run_make_row' (P := Try.prog) 22 24 (.slice none 0 0) 24 Try.underlying22 info24 rfl .i64 .i64 0 (by omega) (by omega) w
  go_enter Try.func6, Try.ntmps6
  go_wp2
  refine wp_loop_rounds 1 ?_
  rw [rounds_succ]
  go_wp2
  go_ret
  exact ⟨rfl, (Below.refl _ w).alloc (Nat.le_refl _) _⟩

theorem clone_zero (a : Option Addr) (c : Nat) (w : World) :
    Calls Try.prog 6 #[.slice a 0 c] w fun e w' => ∃ a', e = .returned (.slice a' 0 0) ∧ Below w.heap.size w w' := by
  cases a with
  | none => exact (clone_nil w 0 c).mono fun e w' ⟨h1, h2⟩ => ⟨none, h1, by rw [h2]; exact Below.refl _ _⟩
  | some x => exact (clone_empty x c w).mono fun e w' ⟨h1, h2⟩ => ⟨_, h1, h2⟩


set_option maxHeartbeats 4000000 in
set_option maxRecDepth 100000 in
theorem det_none (a : Option Addr) (c : Nat) (size sent queued : Int) (w : World) :
    Calls Try.prog 3 #[.int .i64 size, .slice a 0 c, .int .i64 sent, .int .i64 queued] w fun e w' => e = .returned (.bool true) ∧ Below w.heap.size w w' := by
  have hn22 := n22
  have hmk : ∀ w, (Instr.makeSlice 22 (.int .i64 0) (.int .i64 0)).run Try.prog w = .ok (.slice (some ⟨w.heap.size, 0, none⟩) 0 0) (w.alloc (.cells (madeCells #[.slice none 0 0] 0) 24)) :=
    fun w => run_make_row' (P := Try.prog) 22 24 (.slice none 0 0) 24 Try.underlying22 info24 rfl .i64 .i64 0 (by omega) (by omega) w
  go_enter Try.func3, Try.ntmps3
  go_wp2_with fail
  refine (bytes_none a 0 c size sent queued _ (by omega)).mono ?_
  rintro e w ⟨rfl, rfl⟩
  go_wp2_with fail
  refine wp_loop_rounds 1 ?_
  rw [rounds_succ]
  by_cases g1 : sent < 0
  · go_wp2_with fail
    go_ret
    exact ⟨rfl, Below.refl _ _⟩
  by_cases g2 : queued < 0
  · go_wp2_with fail
    go_ret
    exact ⟨rfl, Below.refl _ _⟩
  by_cases g3 : 1048576 < sent
  · go_wp2_with fail
    go_ret
    exact ⟨rfl, Below.refl _ _⟩
  by_cases g4 : 1048576 < queued
  · go_wp2_with fail
    go_ret
    exact ⟨rfl, Below.refl _ _⟩
  by_cases g5 : ¬ sent + queued = 0
  · have g5' : (sent + queued != 0) = true := by simpa using g5
    clear g5
    go_wp2_with fail
    go_ret
    exact ⟨rfl, Below.refl _ _⟩
  obtain rfl : sent = 0 := by omega
  obtain rfl : queued = 0 := by omega
  clear g1 g2 g3 g4 g5
  go_wp2_with fail
  refine (clone_zero a c _).mono ?_
  rintro e w1 ⟨a1, rfl, b1⟩
  go_wp2_with fail
  refine (clone_zero a c _).mono ?_
  rintro e w2 ⟨a2, rfl, b2⟩
  have s1 := b1.size
  have bel2 : Below w.heap.size w w2 := b1.trans (b2.mono s1)
  have s2 := bel2.size
  clear b1 b2 s1
  cases a1 with
  | none =>
    go_wp2_with fail
    refine (enc_any size 0 0 none 0 0 _).mono ?_
    rintro e w5 ⟨rfl, hw5⟩
    have b5 : Below w.heap.size w w5 := by rw [hw5]; exact bel2.alloc s2 _
    have e0 : w5.cell? ⟨w2.heap.size, 0, none⟩ = some (.int .i64 size) := by rw [hw5]; simp
    have e1 : w5.cell? ⟨w2.heap.size, 1, none⟩ = some (.slice none 0 0) := by rw [hw5]; simp
    have e2 : w5.cell? ⟨w2.heap.size, 2, none⟩ = some (.int .i64 0) := by rw [hw5]; simp
    have e3 : w5.cell? ⟨w2.heap.size, 3, none⟩ = some (.int .i64 0) := by rw [hw5]; simp
    clear hw5
    go_wp2_with fail
    refine (keep_zero w2.heap.size w5 e2 e3).mono ?_
    rintro e w6 ⟨rfl, q, rfl⟩
    go_wp2_with fail
    refine wp_loop_rounds 1 ?_
    rw [rounds_succ]
    go_wp2_with (go_at_call 9; go_in)
    refine (sames_none none a2 0 0 0 _ (by omega)).mono ?_
    rintro e w7 ⟨rfl, q', rfl⟩
    go_wp2
    go_ret
    exact ⟨rfl, ⟨b5.os, b5.tape, b5.output, b5.size, b5.block⟩⟩
  | some x =>
    go_wp2_with fail
    refine wp_loop_rounds 1 ?_
    rw [rounds_succ]
    go_wp2_with fail
    have b3 : Below w.heap.size w (w2.alloc (.cells (madeCells #[.slice none 0 0] 0) 24)) := bel2.alloc s2 _
    generalize (w2.alloc (.cells (madeCells #[.slice none 0 0] 0) 24)) = w3 at *
    have s3 := b3.size
    refine (enc_any size 0 0 (some ⟨w2.heap.size, 0, none⟩) 0 0 _).mono ?_
    rintro e w5 ⟨rfl, hw5⟩
    have b5 : Below w.heap.size w w5 := by rw [hw5]; exact b3.alloc s3 _
    have e0 : w5.cell? ⟨w3.heap.size, 0, none⟩ = some (.int .i64 size) := by rw [hw5]; simp
    have e1 : w5.cell? ⟨w3.heap.size, 1, none⟩ = some (.slice (some ⟨w2.heap.size, 0, none⟩) 0 0) := by rw [hw5]; simp
    have e2 : w5.cell? ⟨w3.heap.size, 2, none⟩ = some (.int .i64 0) := by rw [hw5]; simp
    have e3 : w5.cell? ⟨w3.heap.size, 3, none⟩ = some (.int .i64 0) := by rw [hw5]; simp
    clear hw5
    go_wp2_with fail
    refine (keep_zero w3.heap.size w5 e2 e3).mono ?_
    rintro e w6 ⟨rfl, q, rfl⟩
    go_wp2_with fail
    refine wp_loop_rounds 1 ?_
    rw [rounds_succ]
    go_wp2_with (go_at_call 9; go_in)
    refine (sames_none (some ⟨w2.heap.size, 0, none⟩) a2 0 0 0 _ (by omega)).mono ?_
    rintro e w7 ⟨rfl, q', rfl⟩
    go_wp2
    go_ret
    exact ⟨rfl, ⟨b5.os, b5.tape, b5.output, b5.size, b5.block⟩⟩
end Go.Proofs.Qxb6630770a
