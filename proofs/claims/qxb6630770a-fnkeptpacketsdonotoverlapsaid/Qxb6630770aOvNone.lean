/-
  FnKeptPacketsDoNotOverlap: the walk where there is no packet.
-/
import Derived.Test.Qxb6630770aDetNone
import Derived.Test.Qxb6630770aSmall2
namespace Go.Proofs.Qxb6630770a
open Go.RowKit

set_option maxHeartbeats 400000 in
theorem contig_nil (c : Nat) (w : World) :
    Calls Try.prog 15 #[.slice none 0 c, .int .i64 0] w fun e w' => e = .returned (.slice none 0 0) ∧ w' = w := by
  have h22 := q22
  go_enter Try.func15, Try.ntmps15
  go_wp2
  go_ret
  exact ⟨rfl, rfl⟩

set_option maxHeartbeats 400000 in
theorem contig_empty (x : Addr) (c : Nat) (w : World) :
    Calls Try.prog 15 #[.slice (some x) 0 c, .int .i64 0] w fun e w' => e = .returned (.slice (some ⟨w.heap.size + 1, 0, none⟩) 0 0) ∧ Below w.heap.size w w' := by
  have h22 := q22
  have hmk : ∀ w, (Instr.makeSlice 22 (.int .i64 0) (.int .i64 0)).run Try.prog w = .ok (.slice (some ⟨w.heap.size, 0, none⟩) 0 0) (w.alloc (.cells (madeCells #[.slice none 0 0] 0) 24)) :=
    fun w => run_make_row' (P := Try.prog) 22 24 (.slice none 0 0) 24 Try.underlying22 info24 rfl .i64 .i64 0 (by omega) (by omega) w
  have hmk5 : ∀ w, (Instr.makeSlice 24 (.int .i64 0) (.int .i64 0)).run Try.prog w = .ok (.slice (some ⟨w.heap.size, 0, none⟩) 0 0) (w.alloc (.cells (madeCells #[.int .u8 0] 0) 5)) :=
    fun w => run_make_row' (P := Try.prog) 24 5 (.int .u8 0) 1 Try.underlying24 info5 rfl .i64 .i64 0 (by omega) (by omega) w
  go_enter Try.func15, Try.ntmps15
  go_wp2
  refine wp_loop_rounds 1 ?_
  rw [rounds_succ]
  go_wp2
  go_ret
  exact ⟨rfl, ((Below.refl _ w).alloc (Nat.le_refl _) _).alloc (by simp) _⟩

theorem contig_zero (a : Option Addr) (c : Nat) (w : World) :
    Calls Try.prog 15 #[.slice a 0 c, .int .i64 0] w fun e w' => ∃ a', e = .returned (.slice a' 0 0) ∧ Below w.heap.size w w' := by
  cases a with
  | none => exact (contig_nil c w).mono fun e w' ⟨h1, h2⟩ => ⟨none, h1, by rw [h2]; exact Below.refl _ _⟩
  | some x => exact (contig_empty x c w).mono fun e w' ⟨h1, h2⟩ => ⟨_, h1, h2⟩

set_option maxHeartbeats 1000000 in
set_option maxRecDepth 100000 in
theorem ov_none (a : Option Addr) (c : Nat) (size sent queued : Int) (w : World) :
    Calls Try.prog 4 #[.int .i64 size, .slice a 0 c, .int .i64 sent, .int .i64 queued] w fun e w' => e = .returned (.bool true) ∧ Below w.heap.size w w' := by
  go_enter Try.func4, Try.ntmps4
  go_wp2_with fail
  refine (bytes14_none a 0 c size sent queued _ (by omega)).mono ?_
  rintro e w ⟨rfl, rfl⟩
  go_wp2_with fail
  refine wp_loop_rounds 1 ?_
  rw [rounds_succ]
  by_cases g1 : sent < 0
  · go_wp2_with fail
    go_ret
    exact ⟨rfl, Below.refl _ _⟩
  by_cases g2 : queued < 0
  · go_wp2_with fail
    go_ret
    exact ⟨rfl, Below.refl _ _⟩
  by_cases g3 : 1048576 < sent
  · go_wp2_with fail
    go_ret
    exact ⟨rfl, Below.refl _ _⟩
  by_cases g4 : 1048576 < queued
  · go_wp2_with fail
    go_ret
    exact ⟨rfl, Below.refl _ _⟩
  by_cases g5 : ¬ sent + queued = 0
  · have g5' : (sent + queued != 0) = true := by simpa using g5
    clear g5
    go_wp2_with fail
    go_ret
    exact ⟨rfl, Below.refl _ _⟩
  obtain rfl : sent = 0 := by omega
  obtain rfl : queued = 0 := by omega
  clear g1 g2 g3 g4 g5
  go_wp2_with fail
  refine (contig_zero a c _).mono ?_
  rintro e w1 ⟨a1, rfl, b1⟩
  go_wp2_with fail
  refine (clone_zero a c _).mono ?_
  rintro e w2 ⟨a2, rfl, b2⟩
  have s1 := b1.size
  have bel2 : Below w.heap.size w w2 := b1.trans (b2.mono s1)
  have s2 := bel2.size
  clear b1 b2 s1
  go_wp2_with fail
  refine (enc_any size 0 0 a1 0 0 _).mono ?_
  rintro e w5 ⟨rfl, hw5⟩
  have b5 : Below w.heap.size w w5 := by rw [hw5]; exact bel2.alloc s2 _
  have e0 : w5.cell? ⟨w2.heap.size, 0, none⟩ = some (.int .i64 size) := by rw [hw5]; simp
  have e1 : w5.cell? ⟨w2.heap.size, 1, none⟩ = some (.slice a1 0 0) := by rw [hw5]; simp
  have e2 : w5.cell? ⟨w2.heap.size, 2, none⟩ = some (.int .i64 0) := by rw [hw5]; simp
  have e3 : w5.cell? ⟨w2.heap.size, 3, none⟩ = some (.int .i64 0) := by rw [hw5]; simp
  clear hw5
  go_wp2_with fail
  refine (keep_zero w2.heap.size w5 e2 e3).mono ?_
  rintro e w6 ⟨rfl, q, rfl⟩
  go_wp2_with fail
  refine (get_queue w2.heap.size a1 0 0 _ (by simpa using e1)).mono ?_
  rintro e w7 ⟨rfl, h7⟩
  obtain rfl := h7.symm
  clear h7
  go_wp2_with fail
  refine wp_loop_rounds 1 ?_
  rw [rounds_succ]
  go_wp2_with fail
  refine (sames_none a1 a2 0 0 0 _ (by omega)).mono ?_
  rintro e w8 ⟨rfl, q', rfl⟩
  go_wp2
  go_ret
  exact ⟨rfl, ⟨b5.os, b5.tape, b5.output, b5.size, b5.block⟩⟩
end Go.Proofs.Qxb6630770a
