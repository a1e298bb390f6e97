/-
  slices.Clone at []uint64; (*Histogram).snapshot.
-/
import Derived.Test.Qxb6630741aLocks
import Derived.Test.Qxb6630741aClone
import Derived.Deep.RegionWith
import Derived.Deep.RegionHeld3
import Derived.Deep.DeepMust
namespace Go.Proofs.Qxb6630741a
open Go.RowKit Go.MuLone

theorem cells_map {w : World} {b off n : Nat} {zs : List Int} (hl : zs.length = n) (hc : ∀ i, i < n → w.cell? ⟨b, off + i, none⟩ = some (.int .u64 (zs.getD i 0))) :
    ∀ j u, (zs.map (Value.int .u64))[j]? = some u → w.cell? ⟨b, off + j, none⟩ = some u := by
  intro j u hu
  have hj : j < n := by have := (List.getElem?_eq_some_iff.1 hu).1; simpa [hl] using this
  rw [hc j hj]
  simp [show j < zs.length by omega] at hu
  simp [show j < zs.length by omega, hu]

set_option maxHeartbeats 400000 in
theorem sclone_any (b off n c : Nat) (zs : List Int) (w : World) (hn : n ≤ 65536) (hl : zs.length = n)
    (hc : ∀ i, i < n → w.cell? ⟨b, off + i, none⟩ = some (.int .u64 (zs.getD i 0))) :
    Calls Try.prog 15 #[.slice (some ⟨b, off, none⟩) n c] w fun e w' => ∃ g cap, e = .returned (.slice (some ⟨g, 0, none⟩) n cap) ∧
      (∀ i, i < n → w'.cell? ⟨g, i, none⟩ = some (.int .u64 (zs.getD i 0))) ∧ w.heap.size ≤ g ∧ Below w.heap.size w w' := by
  have q22 : ∀ (w : World) (a : Option Addr) (n c n' c' : Nat), (binOp .eql 22 (.slice a n c) (.slice none n' c')).run Try.prog w = .ok (.bool a.isNone) w := fun w a n c n' c' => Lib.run_eql_slice_nil w _ _ a n c n' c' Try.underlying22
  obtain ⟨i0, hi, hz0, hz1, hz2⟩ := info_parts info25
  have HC : Hid (∀ j u, (zs.map (Value.int .u64))[j]? = some u → w.cell? ⟨b, off + j, none⟩ = some u) := cells_map hl hc
  clear hc
  go_enter Try.func15, Try.ntmps15
  go_wp2_with (at_builtin; refine wpList_append_own _ rfl _ _ 22 rfl w.heap.size 25 i0 (.int .u64 0) 1 8 Try.underlying22 hi hz0 hz1 hz2 rfl (by decide) _ _ _ rfl (World.ownsRow_made w #[] 0 (Nat.le_refl _) (Nat.zero_le _) (by simp)) ⟨b, off, none⟩ n c (zs.map (Value.int .u64)) rfl ?qc1 ?qc2 ?qc3 ?qc4 ?qc5 ?qc6 ?_)
  case qc1 => simpa using hl
  case qc2 =>
    intro j u hj
    rw [Addr.add_lit]
    have h := HC.out j u hj
    rw [World.cell?_alloc_past _ _ _ (World.block_lt_of_cell? _ _ h)]
    exact h
  case qc3 => exact ints_oneCell _ _
  case qc4 => unfold maxLen; omega
  case qc5 => omega
  case qc6 => simp
  intro v' w1 hown hgrow hnil
  have hbel : Below w.heap.size w w1 := ((Below.refl _ w).alloc (Nat.le_refl _) _).grown hgrow (by simp) (by intro k hk; simp [Value.ownBlock] at hk; omega)
  have hex : ∃ g cap, v' = .slice (some ⟨g, 0, none⟩) n cap ∧ w.heap.size ≤ g := by
    rcases hown.2 with ⟨h, _⟩ | ⟨g, cap, cur, h, hb, _⟩
    · simp [h] at hnil
    · exact ⟨g, cap, by simpa using h, hb⟩
  obtain ⟨g, cap, hv, hg⟩ := hex
  have hcells : ∀ i, i < n → w1.cell? ⟨g, i, none⟩ = some (.int .u64 (zs.getD i 0)) := by
    intro i hi'
    rw [hv] at hown
    rw [hown.cellAt i (by omega)]
    simp [show i < zs.length by omega]
  clear hown hgrow hnil
  rw [hv]
  go_wp2
  go_ret
  exact ⟨g, cap, rfl, hcells, hg, hbel⟩

theorem below_undrew {W w' : World} {p : Nat} (h : Below W.drew.heap.size W.drew w') (hp : p ≤ W.heap.size) : Below p W w' :=
  ⟨h.os, h.tape, h.output, h.size, fun k hk => h.block k (Nat.lt_of_lt_of_le hk hp)⟩

set_option maxHeartbeats 800000 in
theorem snapshot_any (p b off n c : Nat) (zs : List Int) (w : World) (hn : n ≤ 65536) (hl : zs.length = n)
    (hc : ∀ i, i < n → w.cell? ⟨b, off + i, none⟩ = some (.int .u64 (zs.getD i 0))) (hbp : b < p)
    (c1 : w.cell? ⟨p, 1, none⟩ = some (.int .i32 0)) (f1 : w.frozen? ⟨p, 1, none⟩ = false)
    (c3 : w.cell? ⟨p, 3, none⟩ = some (.slice (some ⟨b, off, none⟩) n c)) (c4 : w.cell? ⟨p, 4, none⟩ = some (.float .f64 0)) :
    Calls Try.prog 12 #[.pointer (some ⟨p, 0, none⟩)] w fun e w' => ∃ g cap, e = .returned (.tuple #[.slice (some ⟨g, 0, none⟩) n cap, .float .f64 0]) ∧
      (∀ i, i < n → w'.cell? ⟨g, i, none⟩ = some (.int .u64 (zs.getD i 0))) ∧ Below p w w' := by
  have HC : Hid (∀ i, i < n → w.cell? ⟨b, off + i, none⟩ = some (.int .u64 (zs.getD i 0))) := hc
  clear hc
  go_enter_defers Try.func12, Try.ntmps12
  go_wp2_with (go_at_call 13; refine (lock_free muLib ⟨p, 1, none⟩ _ c1 f1).mono ?_; rintro e w' ⟨rfl, rfl⟩)
  have d3 : (w.setCell ⟨p, 1, none⟩ (.int .i32 1)).cell? ⟨p, 3, none⟩ = some (.slice (some ⟨b, off, none⟩) n c) := (World.cell?_setCell_other _ ⟨p, 1, none⟩ ⟨p, 3, none⟩ _ (by simp)).trans c3
  have d4 : (w.setCell ⟨p, 1, none⟩ (.int .i32 1)).cell? ⟨p, 4, none⟩ = some (.float .f64 0) := (World.cell?_setCell_other _ ⟨p, 1, none⟩ ⟨p, 4, none⟩ _ (by simp)).trans c4
  have d1 : (w.setCell ⟨p, 1, none⟩ (.int .i32 1)).cell? ⟨p, 1, none⟩ = some (.int .i32 1) := World.cell?_setCell_same w ⟨p, 1, none⟩ (.int .i32 1) c1
  have e1 : (w.setCell ⟨p, 1, none⟩ (.int .i32 1)).frozen? ⟨p, 1, none⟩ = false := by simp [f1]
  have hps : p < (w.setCell ⟨p, 1, none⟩ (.int .i32 1)).heap.size := World.block_lt_of_cell? _ _ d1
  have HD : Hid (∀ i, i < n → (w.setCell ⟨p, 1, none⟩ (.int .i32 1)).cell? ⟨b, off + i, none⟩ = some (.int .u64 (zs.getD i 0))) := by
    intro i hi
    rw [World.cell?_setCell_other _ ⟨p, 1, none⟩ ⟨b, off + i, none⟩ _ (by intro e; have := congrArg Addr.block e; simp at this; omega)]
    exact HC.out i hi
  have hbelW : Below p w (w.setCell ⟨p, 1, none⟩ (.int .i32 1)) := (Below.refl p w).setCell (p := ⟨p, 1, none⟩) (Nat.le_refl p) _
  clear HC c1 f1 c3 c4
  generalize w.setCell ⟨p, 1, none⟩ (.int .i32 1) = W at *
  refine wp_region_noPanic ?_
  go_region_with (go_at_call 15; refine (sclone_any b off n c zs _ hn hl ?_).mono ?_; exact fun i hi => HD.out i hi; rintro e w' ⟨g, cap, rfl, hcg, hg, hb'⟩; have d4' : w'.cell? ⟨p, 4, none⟩ = some (.float .f64 0) := (hb'.cell (p := ⟨p, 4, none⟩) hps).trans d4)
  all_goals
    refine NoPanic.normal ?_
    go_wp2
    refine leaves_cons (f := 14) (args := #[.pointer (some ⟨p, 1, none⟩)]) (by simp) (by simp [go_sem]) ?_
    refine (unlock_deferred muLib ⟨p, 1, none⟩ .returning _ ?_ ?_).mono ?_
    · exact (hb'.cell (p := ⟨p, 1, none⟩) hps).trans d1
    · exact (hb'.frozen (p := ⟨p, 1, none⟩) hps).trans e1
    rintro e u' w'' ⟨rfl, rfl, rfl⟩
    refine ⟨_, results_tmp2 rfl _ _ _, g, cap, rfl, fun i hi => ?_, ?_⟩
    · rw [World.cell?_setCell_other _ ⟨p, 1, none⟩ ⟨g, i, none⟩ _ (by intro e; have := congrArg Addr.block e; have hg' : W.heap.size ≤ g := hg; simp at this; omega)]
      exact hcg i hi
    · exact (hbelW.trans (below_undrew hb' (Nat.le_of_lt hps))).setCell (p := ⟨p, 1, none⟩) (Nat.le_refl p) _
end Go.Proofs.Qxb6630741a
