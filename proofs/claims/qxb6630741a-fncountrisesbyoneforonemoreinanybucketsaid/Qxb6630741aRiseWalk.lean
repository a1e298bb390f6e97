/-
  FnCountRisesByOneForOneMoreInAnyBucket: the walk.
-/
import Derived.Test.Qxb6630741aSplitWalk
namespace Go.Proofs.Qxb6630741a
open Go.RowKit

theorem RowAt.set {w : World} {b : Nat} {zs : List Int} (h : RowAt w b 0 zs) (k : Nat) (hk : k < zs.length) (v : Int) : RowAt (w.setCell ⟨b, k, none⟩ (.int .u64 v)) b 0 (zs.set k v) := by
  intro i hi
  have hi' : i < zs.length := by simpa using hi
  rw [Nat.zero_add]
  by_cases hik : k = i
  · subst hik
    have := h k hk
    rw [Nat.zero_add] at this
    rw [World.cell?_setCell_same w ⟨b, k, none⟩ _ this]
    simp [hk]
  · rw [World.cell?_setCell_other _ ⟨b, k, none⟩ ⟨b, i, none⟩ _ (by intro e; exact hik (congrArg Addr.off e))]
    have := h i hi'
    rw [Nat.zero_add] at this
    rw [this]
    simp [hik]

theorem RowAt.other {w : World} {b off : Nat} {zs : List Int} (h : RowAt w b off zs) (g k : Nat) (v : Value) (hg : g ≠ b) : RowAt (w.setCell ⟨g, k, none⟩ v) b off zs := by
  intro i hi
  rw [World.cell?_setCell_other _ ⟨g, k, none⟩ ⟨b, off + i, none⟩ _ (by intro e; exact hg (congrArg Addr.block e))]
  exact h i hi

theorem clone_row2 (b off n c : Nat) (zs : List Int) (w : World) (hn : n ≤ 65536) (hl : zs.length = n) (hc : RowAt w b off zs) (hb : b < w.heap.size) :
    Calls Try.prog 6 #[.slice (some ⟨b, off, none⟩) n c] w fun e w' => e = .returned (.slice (some ⟨w.heap.size, 0, none⟩) n n) ∧
      RowAt w' w.heap.size 0 zs ∧ (∀ k, w'.frozen? ⟨w.heap.size, k, none⟩ = false) ∧ Below w.heap.size w w' ∧ w.heap.size < w'.heap.size :=
  (clone_any b off n c zs w hn hl (fun i hi => hc i (by omega)) hb).mono fun e w' ⟨he, hown, hbel, hs⟩ => ⟨he, RowAt.owned hown hl, hown.frozenAt, hbel, hs⟩

set_option maxHeartbeats 1000000 in
theorem rise_main (b off n c k : Nat) (zs : List Int) (w : World) (h1 : 1 ≤ n) (hn : n ≤ 65536) (hl : zs.length = n) (hk : k < n)
    (hc : RowAt w b off zs) (hb : b < w.heap.size) :
    Calls Try.prog 4 #[.slice (some ⟨b, off, none⟩) n c, .int .i64 k] w fun e w' => e = .returned (.bool true) ∧ Below w.heap.size w w' := by
  obtain ⟨i0, hi, hz0, hz1, hz2⟩ := info_parts info25
  obtain ⟨z, hzk⟩ : ∃ z, z = zs.getD k 0 := ⟨_, rfl⟩
  have HM : Hid (sumU (zs.set k (IntKind.u64.wrap (z + 1))) = IntKind.u64.wrap (sumU zs + 1)) := by rw [hzk]; exact sumU_more zs k (by omega)
  have HK : Hid (z = zs.getD k 0) := hzk
  clear hzk
  go_enter Try.func4, Try.ntmps4
  go_wp2_with (go_at_call 8; go_in)
  refine (clone_row b off n c zs _ hn hl hc hb).mono ?_
  rintro e w1 ⟨rfl, r1, -, b1, s1⟩
  go_wp2_with fail
  refine (clone_row2 w.heap.size 0 n n zs _ hn hl r1 s1).mono ?_
  rintro e w2 ⟨rfl, r2, f2, b2, s2⟩
  have hcx : w2.cell? ⟨w1.heap.size, k, none⟩ = some (.int .u64 z) := by have := r2 k (by omega); rwa [Nat.zero_add, ← HK.out] at this
  have hfx := f2 k
  have r3 : RowAt (w2.setCell ⟨w1.heap.size, k, none⟩ (.int .u64 (IntKind.u64.wrap (z + 1)))) w1.heap.size 0 (zs.set k (IntKind.u64.wrap (z + 1))) := r2.set k (by omega) _
  have q3 : RowAt (w2.setCell ⟨w1.heap.size, k, none⟩ (.int .u64 (IntKind.u64.wrap (z + 1)))) w.heap.size 0 zs := (r1.below b2 s1).other _ _ _ (by omega)
  have bel3 : Below w.heap.size w (w2.setCell ⟨w1.heap.size, k, none⟩ (.int .u64 (IntKind.u64.wrap (z + 1)))) := (b1.trans (b2.mono (by omega))).setCell (p := ⟨w1.heap.size, k, none⟩) (Nat.le_of_lt s1) _
  have s3 : w1.heap.size < (w2.setCell ⟨w1.heap.size, k, none⟩ (.int .u64 (IntKind.u64.wrap (z + 1)))).heap.size := by simp; omega
  clear r1 b1 r2 b2 f2
  go_wp2_with fail
  generalize (w2.setCell ⟨w1.heap.size, k, none⟩ (.int .u64 (IntKind.u64.wrap (z + 1)))) = w3 at *
  clear hcx hfx
  refine (clone_row w.heap.size 0 n n zs _ hn hl q3 (by omega)).mono ?_
  rintro e w4 ⟨rfl, r4, -, b4, s4⟩
  go_wp2_with fail
  refine (countOf_row w3.heap.size 0 n n zs _ hn hl r4 s4).mono ?_
  rintro e w5 ⟨rfl, b5⟩
  have r5 : RowAt w5 w1.heap.size 0 (zs.set k (IntKind.u64.wrap (z + 1))) := (r3.below b4 s3).below b5 (by omega)
  have bel5 : Below w.heap.size w w5 := (bel3.trans (b4.mono (by omega))).trans (b5.mono (by omega))
  have s5 : w1.heap.size < w5.heap.size := by have := b5.size; omega
  clear r3 q3 b4 b5 r4 s4 s3 bel3
  go_wp2_with fail
  refine (countOf_row w1.heap.size 0 n n (zs.set k (IntKind.u64.wrap (z + 1))) _ hn (by simpa using hl) r5 s5).mono ?_
  rintro e w6 ⟨rfl, b6⟩
  rw [HM.out]
  have bel6 : Below w.heap.size w w6 := bel5.trans (b6.mono (by omega))
  have s6 : w.heap.size < w6.heap.size := by have := b6.size; omega
  clear r5 b6 bel5 s5
  generalize sumU zs = t at *
  go_wp2_with (at_make; refine wpList_make_full _ rfl _ _ 22 rfl w6.heap.size 25 i0 (.int .u64 0) 1 Try.underlying22 hi hz0 hz1 .i64 .i64 _ _ n rfl rfl rfl rfl (by rw [hz2]; omega) (by unfold maxLen; omega) (Nat.le_refl _) ?_; intro w7 hown hgrow)
  have r7 : RowAt w7 w6.heap.size 0 (List.replicate n 0) := by
    refine RowAt.owned (n := n) (base := w6.heap.size) ?_ (by simp)
    have e : (madeCells (Value.int .u64 0).cells (n * 1)).toList = (List.replicate n (0 : Int)).map (Value.int .u64) := by
      rw [Nat.mul_one, List.map_replicate]; exact toList_madeCells_one _ _
    rw [← e]; exact hown
  have s7 : w6.heap.size < w7.heap.size := (hown.lt w6.heap.size rfl).2
  have bel7 : Below w.heap.size w w7 := bel6.grown hgrow (Nat.le_of_lt s6) (fun k hk => by cases hk)
  clear hown hgrow bel6
  refine (countOf_row w6.heap.size 0 n n (List.replicate n 0) _ hn (by simp) r7 s7).mono ?_
  rintro e w8 ⟨rfl, b8⟩
  rw [sumU_zeros]
  go_wp2
  go_ret
  exact ⟨rfl, bel7.trans (b8.mono (by omega))⟩

set_option maxHeartbeats 400000 in
theorem rise_out (a : Option Addr) (n c : Nat) (k : Int) (w : World) (h : n < 1 ∨ 65536 < n ∨ k < 0 ∨ (n : Int) ≤ k) (hm : n ≤ maxLen) :
    Calls Try.prog 4 #[.slice a n c, .int .i64 k] w fun e w' => e = .returned (.bool true) ∧ Below w.heap.size w w' := by
  unfold maxLen at hm
  by_cases h1 : n < 1
  · go_enter Try.func4, Try.ntmps4
    go_wp2_with (go_at_call 8; go_in)
    go_ret
    exact ⟨rfl, Below.refl _ _⟩
  by_cases h2 : 1048576 < n
  · go_enter Try.func4, Try.ntmps4
    go_wp2_with (go_at_call 8; go_in)
    go_ret
    exact ⟨rfl, Below.refl _ _⟩
  by_cases h3 : 65536 < n
  · go_enter Try.func4, Try.ntmps4
    go_wp2_with (go_at_call 8; go_in)
    go_ret
    exact ⟨rfl, Below.refl _ _⟩
  by_cases h4 : k < 0
  · go_enter Try.func4, Try.ntmps4
    go_wp2_with (go_at_call 8; go_in)
    go_ret
    exact ⟨rfl, Below.refl _ _⟩
  have h5 : (n : Int) ≤ k := by omega
  clear h
  go_enter Try.func4, Try.ntmps4
  go_wp2_with (go_at_call 8; go_in)
  go_ret
  exact ⟨rfl, Below.refl _ _⟩
end Go.Proofs.Qxb6630741a
