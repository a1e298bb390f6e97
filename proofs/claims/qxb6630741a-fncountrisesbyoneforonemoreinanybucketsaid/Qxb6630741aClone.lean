/-
  cloneU64: a copy of a slice of uint64s in new memory.
-/
import Derived.Test.Qxb6630741aRows
import Derived.WalkKit
import Derived.WalkSpells
import Derived.WalkLawsBesides
namespace Go.Proofs.Qxb6630741a
open Go.RowKit

theorem info25 : (Try.prog.info? 25).map (fun i => (i.zero, i.size, i.bytes)) = some (some (.int .u64 0), 1, 8) := by kernel_rfl

/-- The row after k rounds: the first k are copied. -/
def part (zs : List Int) (n k : Nat) : List Value := (zs.take k).map (Value.int .u64) ++ List.replicate (n - k) (.int .u64 0)

theorem part_length (zs : List Int) (n k : Nat) (hl : zs.length = n) (hk : k ≤ n) : (part zs n k).length = n := by
  simp [part]; omega
theorem part_zero (zs : List Int) (n : Nat) : part zs n 0 = List.replicate n (.int .u64 0) := by simp [part]
theorem part_all (zs : List Int) (n : Nat) (hl : zs.length = n) : part zs n n = zs.map (Value.int .u64) := by
  simp [part, ← hl]
theorem part_set (zs : List Int) (n k : Nat) (hl : zs.length = n) (hk : k < n) : (part zs n k).set k (.int .u64 (zs[k]?.getD 0)) = part zs n (k + 1) := by
  have h1 : ((zs.take k).map (Value.int .u64)).length = k := by simp; omega
  unfold part
  rw [List.set_append, if_neg (by omega), h1, Nat.sub_self]
  obtain ⟨m, hm⟩ : ∃ m, n - k = m + 1 := ⟨n - k - 1, by omega⟩
  have h2 : n - (k + 1) = m := by omega
  rw [hm, h2, List.replicate_succ, List.set_cons_zero, List.take_succ_eq_append_getElem (by omega), List.map_append, List.append_assoc]
  simp [show k < zs.length by omega]

set_option maxHeartbeats 400000 in
theorem clone_any (b off n c : Nat) (zs : List Int) (w : World) (hn : n ≤ 65536) (hl : zs.length = n)
    (hc : ∀ i, i < n → w.cell? ⟨b, off + i, none⟩ = some (.int .u64 (zs.getD i 0))) (hb : b < w.heap.size) :
    Calls Try.prog 6 #[.slice (some ⟨b, off, none⟩) n c] w fun e w' => e = .returned (.slice (some ⟨w.heap.size, 0, none⟩) n n) ∧
      w'.ownsRow w.heap.size 25 1 (.slice (some ⟨w.heap.size, 0, none⟩) n n) n (zs.map (Value.int .u64)) ∧ Below w.heap.size w w' ∧ w.heap.size < w'.heap.size := by
  have q22 : ∀ (w : World) (a : Option Addr) (n c n' c' : Nat), (binOp .eql 22 (.slice a n c) (.slice none n' c')).run Try.prog w = .ok (.bool a.isNone) w := fun w a n c n' c' => Lib.run_eql_slice_nil w _ _ a n c n' c' Try.underlying22
  obtain ⟨i0, hi, hz0, hz1, hz2⟩ := info_parts info25
  have HC : Hid (∀ i, i < n → w.cell? ⟨b, off + i, none⟩ = some (.int .u64 (zs.getD i 0))) := hc
  clear hc
  go_enter Try.func6, Try.ntmps6
  go_wp2_with (at_make; refine wpList_make_full _ rfl _ _ 22 rfl w.heap.size 25 i0 (.int .u64 0) 1 Try.underlying22 hi hz0 hz1 .i64 .i64 _ _ n rfl rfl rfl rfl (by rw [hz2]; omega) (by unfold maxLen; omega) (Nat.le_refl _) ?_; intro w1 hown hgrow)
  have hown0 : w1.ownsRow w.heap.size 25 1 (.slice (some ⟨w.heap.size, 0, none⟩) n n) n (part zs n 0) := by
    rw [part_zero]
    have e : (madeCells (Value.int .u64 0).cells (n * 1)).toList = List.replicate n (.int .u64 0) := by
      rw [Nat.mul_one]; exact toList_madeCells_one _ _
    rw [← e]; exact hown
  have hbel0 : Below w.heap.size w w1 := (Below.refl _ w).grown hgrow (Nat.le_refl _) (fun k hk => by cases hk)
  clear hown hgrow
  go_loopw [4] (fun i wr => ∃ k : Nat, k ≤ n ∧ i = .int .i64 k ∧ wr.ownsRow w.heap.size 25 1 (.slice (some ⟨w.heap.size, 0, none⟩) n n) n (part zs n k) ∧ Below w.heap.size w wr) (fun i _ => n - (intOf i).toNat)
  case atStart => exact ⟨0, Nat.zero_le _, rfl, hown0, hbel0⟩
  case round =>
    obtain ⟨k, hk, rfl, hown, hbel⟩ := hrel
    clear hown0 hbel0
    by_cases hlt : k < n
    · have hcx : wr.cell? ⟨b, off + k, none⟩ = some (.int .u64 (zs[k]?.getD 0)) := by
        have := HC.out k hlt
        rw [List.getD_eq_getElem?_getD] at this
        exact (hbel.cell (p := ⟨b, off + k, none⟩) hb).trans this
      have hcy := hown.cellAt k (by omega)
      obtain ⟨y, hy⟩ : ∃ y, (part zs n k)[k]? = some y := ⟨_, List.getElem?_eq_getElem (by rw [part_length zs n k hl hk]; exact hlt)⟩
      rw [hy] at hcy
      have hfy := hown.frozenAt k
      have hst := hown.stored k (.int .u64 (zs[k]?.getD 0))
      rw [part_set zs n k hl hlt] at hst
      have hbel' : Below w.heap.size w (wr.setCell ⟨w.heap.size, k, none⟩ (.int .u64 (zs[k]?.getD 0))) := hbel.setCell (Nat.le_refl _) _
      have HS := hst.1
      clear hst hown hbel hy
      generalize zs[k]?.getD 0 = z at *
      go_wp2
      go_roundw
      case rel => exact ⟨k + 1, by omega, by go_num, HS, hbel'⟩
      case measure => simp [intOf]; omega
    · have hkn : k = n := by omega
      have hfin : wr.ownsRow w.heap.size 25 1 (.slice (some ⟨w.heap.size, 0, none⟩) n n) n (zs.map (Value.int .u64)) := by
        rw [← part_all zs n hl]; rw [hkn] at hown; exact hown
      clear hkn
      go_wp2
      go_ret
      exact ⟨rfl, hfin, hbel, (hfin.lt w.heap.size rfl).2⟩
end Go.Proofs.Qxb6630741a
