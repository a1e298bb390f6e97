/-
  FnCountSplitsAtAnyCutAndCountsOneBucketAsItsValue: the walk behind the guards.
-/
import Derived.Test.Qxb6630741aSums
namespace Go.Proofs.Qxb6630741a
open Go.RowKit

/-- The cells of a row of uint64s. -/
def RowAt (w : World) (b off : Nat) (zs : List Int) : Prop := ∀ i, i < zs.length → w.cell? ⟨b, off + i, none⟩ = some (.int .u64 (zs.getD i 0))

theorem RowAt.below {w w' : World} {b off : Nat} {zs : List Int} (h : RowAt w b off zs) {B : Nat} (hb : Below B w w') (hB : b < B) : RowAt w' b off zs :=
  fun i hi => (hb.cell (p := ⟨b, off + i, none⟩) hB).trans (h i hi)

theorem RowAt.take {w : World} {b off : Nat} {zs : List Int} (h : RowAt w b off zs) (k : Nat) : RowAt w b off (zs.take k) := by
  intro i hi
  simp at hi
  rw [h i (by omega)]
  simp [show i < k by omega]

theorem RowAt.drop {w : World} {b off : Nat} {zs : List Int} (h : RowAt w b off zs) (k : Nat) : RowAt w b (off + k) (zs.drop k) := by
  intro i hi
  simp at hi
  have := h (k + i) (by omega)
  rw [Nat.add_assoc, this]
  simp [List.getElem?_drop]

theorem RowAt.owned {w : World} {g n base : Nat} {zs : List Int} (h : w.ownsRow base 25 1 (.slice (some ⟨g, 0, none⟩) n n) n (zs.map (Value.int .u64))) (hl : zs.length = n) : RowAt w g 0 zs := by
  intro i hi
  rw [Nat.zero_add, h.cellAt i (by omega)]
  simp [hi]

theorem clone_row (b off n c : Nat) (zs : List Int) (w : World) (hn : n ≤ 65536) (hl : zs.length = n) (hc : RowAt w b off zs) (hb : b < w.heap.size) :
    Calls Try.prog 6 #[.slice (some ⟨b, off, none⟩) n c] w fun e w' => e = .returned (.slice (some ⟨w.heap.size, 0, none⟩) n n) ∧
      RowAt w' w.heap.size 0 zs ∧ w'.frozen? ⟨w.heap.size, 0, none⟩ = false ∧ Below w.heap.size w w' ∧ w.heap.size < w'.heap.size :=
  (clone_any b off n c zs w hn hl (fun i hi => hc i (by omega)) hb).mono fun e w' ⟨he, hown, hbel, hs⟩ => ⟨he, RowAt.owned hown hl, hown.frozenAt 0, hbel, hs⟩

theorem countOf_row (b off n c : Nat) (zs : List Int) (w : World) (hn : n ≤ 65536) (hl : zs.length = n) (hc : RowAt w b off zs) (hb : b < w.heap.size) :
    Calls Try.prog 7 #[.slice (some ⟨b, off, none⟩) n c] w fun e w' => e = .returned (.int .u64 (sumU zs)) ∧ Below w.heap.size w w' :=
  countOf_any b off n c zs w hn hl (fun i hi => hc i (by omega)) hb

set_option maxHeartbeats 1000000 in
theorem split_main (b off n c k : Nat) (zs : List Int) (w : World) (h1 : 1 ≤ n) (hn : n ≤ 65536) (hl : zs.length = n) (hk : k < n)
    (hw : ∀ z ∈ zs, 0 ≤ z ∧ z ≤ 18446744073709551615) (hc : RowAt w b off zs) (hb : b < w.heap.size) :
    Calls Try.prog 3 #[.slice (some ⟨b, off, none⟩) n c, .int .i64 k] w fun e w' => e = .returned (.bool true) ∧ Below w.heap.size w w' := by
  have hz := hw (zs.getD k 0) (by rw [List.getD_eq_getElem?_getD, List.getElem?_eq_getElem (by omega)]; exact List.getElem_mem _)
  obtain ⟨z, hzk⟩ : ∃ z, z = zs.getD k 0 := ⟨_, rfl⟩
  rw [← hzk] at hz
  have H1 : Hid (sumU [z] = z) := sumU_one _ hz.1 hz.2
  have HK : Hid (z = zs.getD k 0) := hzk
  have HS : Hid (IntKind.u64.wrap (sumU (zs.take k) + sumU (zs.drop k)) = sumU zs) := sumU_split zs k
  clear hz hw hzk
  go_enter Try.func3, Try.ntmps3
  go_wp2_with (go_at_call 5; go_in)
  refine (clone_row b off n c zs _ hn hl hc hb).mono ?_
  rintro e w1 ⟨rfl, r1, -, b1, s1⟩
  have hcx : w1.cell? ⟨w.heap.size, k, none⟩ = some (.int .u64 z) := by have := r1 k (by omega); rwa [Nat.zero_add, ← HK.out] at this
  go_wp2_with fail
  have r1k : RowAt w1 w.heap.size k [z] := by
    intro i hi
    obtain rfl : i = 0 := by simpa using hi
    exact hcx
  refine (clone_row w.heap.size k 1 (n - k) [z] _ (by omega) rfl r1k s1).mono ?_
  rintro e w2 ⟨rfl, r2, -, b2, s2⟩
  clear hcx r1k
  go_wp2_with fail
  refine (countOf_row w1.heap.size 0 1 1 [z] _ (by omega) rfl r2 s2).mono ?_
  rintro e w3 ⟨rfl, b3⟩
  rw [H1.out]
  have r3 : RowAt w3 w.heap.size 0 zs := (r1.below b2 s1).below b3 (by omega)
  have bel3 : Below w.heap.size w w3 := (b1.trans (b2.mono (by omega))).trans (b3.mono (by omega))
  have s3 : w.heap.size < w3.heap.size := by have := b3.size; omega
  clear r1 b1 r2 b2 b3 s1 s2
  by_cases h0 : (k : Int) = 0
  · have h0' : ((k : Int) == 0) = true := by simpa using h0
    clear h0
    go_wp2_with fail
    go_ret
    exact ⟨rfl, bel3⟩
  have h0' : ((k : Int) == 0) = false := by simpa using h0
  go_wp2_with fail
  refine (clone_row w.heap.size 0 n n zs _ hn hl r3 s3).mono ?_
  rintro e w4 ⟨rfl, r4, -, b4, s4⟩
  go_wp2_with fail
  refine (countOf_row w3.heap.size 0 n n zs _ hn hl r4 s4).mono ?_
  rintro e w5 ⟨rfl, b5⟩
  have r5 : RowAt w5 w.heap.size 0 zs := (r3.below b4 s3).below b5 (by omega)
  have bel5 : Below w.heap.size w w5 := (bel3.trans (b4.mono (by omega))).trans (b5.mono (by omega))
  have s5 : w.heap.size < w5.heap.size := by have := b5.size; omega
  clear r3 b4 b5 r4 s4 s3 bel3
  go_wp2_with fail
  refine (clone_row w.heap.size 0 k n (zs.take k) _ (by omega) (by simp; omega) (r5.take k) s5).mono ?_
  rintro e w6 ⟨rfl, r6, -, b6, s6⟩
  go_wp2_with fail
  refine (countOf_row w5.heap.size 0 k k (zs.take k) _ (by omega) (by simp; omega) r6 s6).mono ?_
  rintro e w7 ⟨rfl, b7⟩
  have r7 : RowAt w7 w.heap.size 0 zs := (r5.below b6 s5).below b7 (by omega)
  have bel7 : Below w.heap.size w w7 := (bel5.trans (b6.mono (by omega))).trans (b7.mono (by omega))
  have s7 : w.heap.size < w7.heap.size := by have := b7.size; omega
  clear r5 b6 b7 r6 s6 s5 bel5
  go_wp2_with fail
  have r7d : RowAt w7 w.heap.size k (zs.drop k) := by have := r7.drop k; rwa [Nat.zero_add] at this
  refine (clone_row w.heap.size k (n - k) (n - k) (zs.drop k) _ (by omega) (by simp; omega) r7d s7).mono ?_
  rintro e w8 ⟨rfl, r8, -, b8, s8⟩
  go_wp2_with fail
  refine (countOf_row w7.heap.size 0 (n - k) (n - k) (zs.drop k) _ (by omega) (by simp; omega) r8 s8).mono ?_
  rintro e w9 ⟨rfl, b9⟩
  have bel9 : Below w.heap.size w w9 := (bel7.trans (b8.mono (by omega))).trans (b9.mono (by omega))
  clear r7 b8 b9 r8 s8 s7 bel7 r7d
  generalize sumU (zs.take k) = x at *
  generalize sumU (zs.drop k) = y at *
  generalize sumU zs = t at *
  have hs : IntKind.u64.wrap (x + y) = t := HS.out
  go_wp2
  go_ret
  exact ⟨rfl, bel9⟩

set_option maxHeartbeats 400000 in
theorem split_out (a : Option Addr) (n c : Nat) (k : Int) (w : World) (h : n < 1 ∨ 65536 < n ∨ k < 0 ∨ (n : Int) ≤ k) (hm : n ≤ maxLen) :
    Calls Try.prog 3 #[.slice a n c, .int .i64 k] w fun e w' => e = .returned (.bool true) ∧ Below w.heap.size w w' := by
  unfold maxLen at hm
  by_cases h1 : n < 1
  · go_enter Try.func3, Try.ntmps3
    go_wp2_with (go_at_call 5; go_in)
    go_ret
    exact ⟨rfl, Below.refl _ _⟩
  by_cases h2 : 1048576 < n
  · go_enter Try.func3, Try.ntmps3
    go_wp2_with (go_at_call 5; go_in)
    go_ret
    exact ⟨rfl, Below.refl _ _⟩
  by_cases h3 : 65536 < n
  · go_enter Try.func3, Try.ntmps3
    go_wp2_with (go_at_call 5; go_in)
    go_ret
    exact ⟨rfl, Below.refl _ _⟩
  by_cases h4 : k < 0
  · go_enter Try.func3, Try.ntmps3
    go_wp2_with (go_at_call 5; go_in)
    go_ret
    exact ⟨rfl, Below.refl _ _⟩
  have h5 : (n : Int) ≤ k := by omega
  clear h
  go_enter Try.func3, Try.ntmps3
  go_wp2_with (go_at_call 5; go_in)
  go_ret
  exact ⟨rfl, Below.refl _ _⟩
end Go.Proofs.Qxb6630741a
