/-
  stepBounds, ZZNewHistogram, Count, countOf.
-/
import Derived.Test.Qxb6630741aSnap
namespace Go.Proofs.Qxb6630741a
open Go.RowKit Go.MuLone

theorem info31 : (Try.prog.info? 31).map (fun i => (i.zero, i.size, i.bytes)) = some (some (.float .f64 0), 1, 8) := by kernel_rfl

set_option maxHeartbeats 400000 in
theorem bounds_small (n : Nat) (w : World) (hn : n < 2) :
    Calls Try.prog 10 #[.int .i64 n] w fun e w' => (∃ a l c, e = .returned (.slice a l c)) ∧ Below w.heap.size w w' := by
  have h1 : (n : Int) < 2 := by omega
  go_enter Try.func10, Try.ntmps10
  go_wp2
  go_ret
  exact ⟨⟨_, _, _, rfl⟩, by repeat (first | exact Below.refl _ _ | refine Below.alloc ?_ (by simp) _)⟩

set_option maxHeartbeats 400000 in
theorem bounds_big (n : Nat) (w : World) (hn : 2 ≤ n) (hn2 : n ≤ 65536) :
    Calls Try.prog 10 #[.int .i64 n] w fun e w' => (∃ a l c, e = .returned (.slice a l c)) ∧ Below w.heap.size w w' := by
  obtain ⟨i0, hi, hz0, hz1, hz2⟩ := info_parts info31
  obtain ⟨m, rfl⟩ : ∃ m, n = m + 1 := ⟨n - 1, by omega⟩
  have hsf : ∀ (a : Addr) (k : FloatKind) (x : _) (m : Mode) (w : World), (store a (.float k x) m).run Try.prog w = stored Try.prog w a (.float k x) m := fun a k x m w => run_store Try.prog w a _ m rfl
  have hd : decide (((m : Nat) : Int) + 1 < 2) = false := decide_eq_false (by omega)
  go_enter Try.func10, Try.ntmps10
  go_wp2_with (at_make; refine wpList_make_full _ rfl _ _ 29 rfl w.heap.size 31 i0 (.float .f64 0) 1 Try.underlying29 hi hz0 hz1 .i64 .i64 _ _ m rfl rfl (by omega) (by omega) (by rw [hz2]; omega) (by unfold maxLen; omega) (Nat.le_refl _) ?_; intro w1 hown hgrow)
  have hown0 : ∃ xs, w1.ownsRow w.heap.size 31 1 (.slice (some ⟨w.heap.size, 0, none⟩) m m) m xs := ⟨_, hown⟩
  have hbel0 : Below w.heap.size w w1 := (Below.refl _ w).grown hgrow (Nat.le_refl _) (fun k hk => by cases hk)
  clear hown hgrow
  go_loopw [4] (fun i wr => ∃ k : Nat, k ≤ m ∧ i = .int .i64 k ∧ (∃ xs, wr.ownsRow w.heap.size 31 1 (.slice (some ⟨w.heap.size, 0, none⟩) m m) m xs) ∧ Below w.heap.size w wr) (fun i _ => m - (intOf i).toNat)
  case atStart => exact ⟨0, Nat.zero_le _, rfl, hown0, hbel0⟩
  case round =>
    obtain ⟨k, hk, rfl, ⟨xs, hown⟩, hbel⟩ := hrel
    clear hown0 hbel0
    by_cases hlt : k < m
    · have hcy := hown.cellAt k (by omega)
      obtain ⟨y, hy⟩ : ∃ y, xs[k]? = some y := ⟨_, List.getElem?_eq_getElem (by rw [hown.1]; omega)⟩
      rw [hy] at hcy
      have hfy := hown.frozenAt k
      have HS : Hid (∀ u, (wr.setCell ⟨w.heap.size, k, none⟩ u).ownsRow w.heap.size 31 1 (.slice (some ⟨w.heap.size, 0, none⟩) m m) m (xs.set k u)) := fun u => (hown.stored k u).1
      have HB : Hid (∀ u, Below w.heap.size w (wr.setCell ⟨w.heap.size, k, none⟩ u)) := fun u => hbel.setCell (p := ⟨w.heap.size, k, none⟩) (Nat.le_refl _) _
      clear hown hbel hy
      go_wp2
      go_roundw
      case rel => exact ⟨k + 1, by omega, by go_num, ⟨_, HS.out _⟩, HB.out _⟩
      case measure => simp [intOf]; omega
    · go_wp2
      go_ret
      exact ⟨⟨_, _, _, rfl⟩, hbel⟩

theorem hist_any (a : Option Addr) (l c : Nat) (d : Option Addr) (n cc : Nat) (w : World) :
    Calls Try.prog 9 #[.slice a l c, .slice d n cc, .float .f64 0] w fun e w' => e = .returned (.pointer (some ⟨w.heap.size, 0, none⟩)) ∧
      w' = w.alloc (.cells #[.slice a l c, .int .i32 0, .int .u32 0, .slice d n cc, .float .f64 0] 41) := by
  go_enter Try.func9, Try.ntmps9
  go_wp2
  go_ret
  exact ⟨rfl, rfl⟩

/-- The sum of the counts as the loop reckons it: each step wraps at 64 bits. -/
def sumU (zs : List Int) : Int := zs.foldl (fun t z => IntKind.u64.wrap (t + z)) 0
theorem sumU_snoc (zs : List Int) (k : Nat) (h : k < zs.length) : sumU (zs.take (k + 1)) = IntKind.u64.wrap (sumU (zs.take k) + zs.getD k 0) := by
  unfold sumU
  rw [List.take_succ_eq_append_getElem h, List.foldl_append]
  simp [h]

set_option maxHeartbeats 800000 in
theorem count_any (p b off n c : Nat) (zs : List Int) (w : World) (hn : n ≤ 65536) (hl : zs.length = n)
    (hc : ∀ i, i < n → w.cell? ⟨b, off + i, none⟩ = some (.int .u64 (zs.getD i 0))) (hbp : b < p)
    (c1 : w.cell? ⟨p, 1, none⟩ = some (.int .i32 0)) (f1 : w.frozen? ⟨p, 1, none⟩ = false)
    (c3 : w.cell? ⟨p, 3, none⟩ = some (.slice (some ⟨b, off, none⟩) n c)) (c4 : w.cell? ⟨p, 4, none⟩ = some (.float .f64 0)) :
    Calls Try.prog 11 #[.pointer (some ⟨p, 0, none⟩)] w fun e w' => e = .returned (.int .u64 (sumU zs)) ∧ Below p w w' := by
  have HC : Hid (∀ i, i < n → w.cell? ⟨b, off + i, none⟩ = some (.int .u64 (zs.getD i 0))) := hc
  clear hc
  go_enter Try.func11, Try.ntmps11
  go_wp2_with (go_at_call 12; refine (snapshot_any p b off n c zs _ hn hl HC.out hbp c1 f1 c3 c4).mono ?_; rintro e w' ⟨g, cap, rfl, hcg, hb'⟩)
  have HG : Hid (∀ i, i < n → w'.cell? ⟨g, i, none⟩ = some (.int .u64 (zs.getD i 0))) := hcg
  clear hcg
  go_loop [5, 15] (fun t i => ∃ k : Nat, k ≤ n ∧ i = .int .i64 k ∧ t = .int .u64 (sumU (zs.take k))) (fun _ i => n - (intOf i).toNat)
  case atStart => exact ⟨0, Nat.zero_le _, rfl, rfl⟩
  case round =>
    obtain ⟨k, hk, rfl, rfl⟩ := hrel
    by_cases hlt : k < n
    · have hcx := HG.out k hlt
      have HS : Hid (sumU (zs.take (k + 1)) = IntKind.u64.wrap (sumU (zs.take k) + zs.getD k 0)) := sumU_snoc zs k (by omega)
      generalize zs.getD k 0 = z at *
      generalize sumU (zs.take k) = t at *
      go_wp2
      go_round
      case rel => exact ⟨k + 1, by omega, by go_num, by rw [HS.out]⟩
      case measure => simp [intOf]; omega
    · have HS : Hid (zs.take k = zs) := List.take_of_length_le (by omega)
      go_wp2
      go_ret
      rw [HS.out]
      exact ⟨rfl, hb'⟩

theorem bounds_any (n : Nat) (w : World) (hn : n ≤ 65536) :
    Calls Try.prog 10 #[.int .i64 n] w fun e w' => (∃ a l c, e = .returned (.slice a l c)) ∧ Below w.heap.size w w' := by
  by_cases h : n < 2
  · exact bounds_small n w h
  · exact bounds_big n w (by omega) hn

set_option maxHeartbeats 800000 in
theorem countOf_any (b off n c : Nat) (zs : List Int) (w : World) (hn : n ≤ 65536) (hl : zs.length = n)
    (hc : ∀ i, i < n → w.cell? ⟨b, off + i, none⟩ = some (.int .u64 (zs.getD i 0))) (hb : b < w.heap.size) :
    Calls Try.prog 7 #[.slice (some ⟨b, off, none⟩) n c] w fun e w' => e = .returned (.int .u64 (sumU zs)) ∧ Below w.heap.size w w' := by
  have HC : Hid (∀ i, i < n → w.cell? ⟨b, off + i, none⟩ = some (.int .u64 (zs.getD i 0))) := hc
  clear hc
  go_enter Try.func7, Try.ntmps7
  go_wp2_with fail
  refine (bounds_any n _ hn).mono ?_
  rintro e w1 ⟨⟨a, l, cc, rfl⟩, hb1⟩
  go_wp2_with fail
  refine (hist_any a l cc (some ⟨b, off, none⟩) n c _).mono ?_
  rintro e w2 ⟨rfl, rfl⟩
  go_wp2_with fail
  have hs1 := hb1.size
  refine (count_any w1.heap.size b off n c zs _ hn hl ?_ (by omega) ?_ ?_ ?_ ?_).mono ?_
  · intro i hi
    rw [World.cell?_alloc_past _ _ _ (by show b < w1.heap.size; omega)]
    exact (hb1.cell (p := ⟨b, off + i, none⟩) hb).trans (HC.out i hi)
  · simp
  · simp
  · simp
  · simp
  rintro e w3 ⟨rfl, hb3⟩
  go_wp2
  go_ret
  exact ⟨rfl, (hb1.alloc hs1 _).trans (hb3.mono hs1)⟩
end Go.Proofs.Qxb6630741a
