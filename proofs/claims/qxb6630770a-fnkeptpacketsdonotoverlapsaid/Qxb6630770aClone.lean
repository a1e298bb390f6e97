/-
  zzClonePackets.
-/
import Derived.Test.Qxb6630770aBase
namespace Go.Proofs.Qxb6630770a
open Go.RowKit

theorem q22 (w : World) (a : Option Addr) (n c n' c' : Nat) : (binOp .eql 22 (.slice a n c) (.slice none n' c')).run Try.prog w = .ok (.bool a.isNone) w := Lib.run_eql_slice_nil w _ _ a n c n' c' Try.underlying22
theorem q24 (w : World) (a : Option Addr) (n c n' c' : Nat) : (binOp .eql 24 (.slice a n c) (.slice none n' c')).run Try.prog w = .ok (.bool a.isNone) w := Lib.run_eql_slice_nil w _ _ a n c n' c' Try.underlying24

theorem clone_nil (w : World) (n c : Nat) :
    Calls Try.prog 6 #[.slice none n c] w fun e w' => e = .returned (.slice none 0 0) ∧ w' = w := by
  have h22 := q22
  go_enter Try.func6, Try.ntmps6
  go_wp2
  go_ret
  exact ⟨rfl, rfl⟩

/-- The outer row after k rounds. -/
def Outer (w : World) (B k : Nat) (qs : List (List Int)) : Prop :=
  ∃ V : Nat → Value, w.rowIs B 24 qs.length V ∧ (∀ i, i < k → OwnPkt w B (V i) (qs.getD i [])) ∧ ∀ i, k ≤ i → V i = .slice none 0 0

theorem Outer.start (w : World) (qs : List (List Int)) : Outer (w.alloc (.cells (madeCells #[.slice none 0 0] qs.length) 24)) w.heap.size 0 qs :=
  ⟨fun _ => .slice none 0 0, World.rowIs_made w _ _ _, fun i hi => absurd hi (Nat.not_lt_zero i), fun _ _ => rfl⟩

theorem Outer.nil {w : World} {B k : Nat} {qs : List (List Int)} (h : Outer w B k qs) (hk : qs.getD k [] = []) : Outer w B (k + 1) qs := by
  obtain ⟨V, h1, h2, h3⟩ := h
  refine ⟨V, h1, fun i hi => ?_, fun i hi => h3 i (by omega)⟩
  by_cases e : i < k
  · exact h2 i e
  · obtain rfl : i = k := by omega
    exact Or.inl ⟨h3 i (Nat.le_refl _), hk⟩

theorem Outer.store {w wr : World} {B k : Nat} {qs : List (List Int)} (h : Outer w B k qs) (hb : Below w.heap.size w wr)
    (hr : wr.rowIs w.heap.size 5 (qs.getD k []).length (fun j => .int .u8 ((qs.getD k []).getD j 0))) :
    Outer (wr.setCell ⟨B, k, none⟩ (.slice (some ⟨w.heap.size, 0, none⟩) (qs.getD k []).length (qs.getD k []).length)) B (k + 1) qs := by
  obtain ⟨V, h1, h2, h3⟩ := h
  have hB := h1.lt
  have h1' : wr.rowIs B 24 qs.length V := h1.of_block (hb.block B hB)
  refine ⟨_, h1'.set k _, fun i hi => ?_, fun i hi => ?_⟩
  · by_cases e : i < k
    · rw [if_neg (by omega)]
      have h4 := (h2 i e).below hb (fun _ => Or.inl (Nat.le_refl _))
      rcases h4 with h | ⟨g, g1, g2, g3⟩
      · exact Or.inl h
      · exact Or.inr ⟨g, g1, g2, g3.setOther (by simp; omega) _⟩
    · obtain rfl : i = k := by omega
      rw [if_pos rfl]
      exact Or.inr ⟨w.heap.size, rfl, hB, hr.setOther (by simp; omega) _⟩
  · rw [if_neg (by omega)]; exact h3 i (by omega)

theorem Outer.done {w : World} {B k : Nat} {qs : List (List Int)} (h : Outer w B k qs) (hk : qs.length ≤ k) : OwnQ w B qs := by
  obtain ⟨V, h1, h2, _⟩ := h
  exact ⟨V, h1, fun i hi => h2 i (by omega)⟩

set_option maxHeartbeats 1000000 in
theorem clone_some (b off n c : Nat) (qs : List (List Int)) (w : World) (hn : n ≤ 32768) (hl : qs.length = n) (ho : octs qs ≤ 1048576) (hq : Pkts w b off qs) :
    Calls Try.prog 6 #[.slice (some ⟨b, off, none⟩) n c] w fun e w' => e = .returned (.slice (some ⟨w.heap.size, 0, none⟩) n n) ∧ OwnQ w' w.heap.size qs ∧ Below w.heap.size w w' := by
  have h22 := q22
  have h24 := q24
  have hmk := run_make_row' (P := Try.prog) 22 24 (.slice none 0 0) 24 Try.underlying22 info24 rfl .i64 .i64 n (by omega) (by omega)
  have HQ : Hid (Pkts w b off qs) := hq
  clear hq
  go_enter Try.func6, Try.ntmps6
  go_wp2
  have O0 := Outer.start w qs
  rw [hl] at O0
  have B0 : Below w.heap.size w (w.alloc (.cells (madeCells #[.slice none 0 0] n) 24)) := (Below.refl _ w).alloc (Nat.le_refl _) _
  go_loopw [4] (fun i wr => ∃ k : Nat, k ≤ n ∧ i = .int .i64 k ∧ Outer wr w.heap.size k qs ∧ Below w.heap.size w wr) (fun i _ => n - (intOf i).toNat)
  case atStart => exact ⟨0, Nat.zero_le _, rfl, O0, B0⟩
  case round =>
    rename World => wo
    obtain ⟨k, hk, rfl, hO, hB⟩ := hrel
    clear O0 B0
    by_cases hlt : k < n
    · obtain ⟨v, hv, a, c', rfl, ha, hc', hcell⟩ := (HQ.out.kept (keeps hB)) k (by omega)
      have hls := len_le_octs qs k (by omega)
      cases a with
      | none =>
        obtain ⟨hl0, rfl⟩ := ha rfl
        have hO' := hO.nil (List.eq_nil_of_length_eq_zero hl0)
        clear hcell hls ha
        go_wp2
        go_roundw
        case rel => exact ⟨k + 1, by omega, by go_num, hO', hB⟩
        case measure => simp [intOf]; omega
      | some x =>
        have hst : Hid (∀ wi, Below wo.heap.size wo wi → wi.rowIs wo.heap.size 5 (qs.getD k []).length (fun j => .int .u8 ((qs.getD k []).getD j 0)) →
            Outer (wi.setCell ⟨w.heap.size, k, none⟩ (.slice (some ⟨wo.heap.size, 0, none⟩) (qs.getD k []).length (qs.getD k []).length)) w.heap.size (k + 1) qs) := fun wi h1 h2 => hO.store h1 h2
        have hot : ∃ u, wo.cell? ⟨w.heap.size, k, none⟩ = some u := by obtain ⟨V, h1, _⟩ := hO; exact ⟨_, h1.cell (by omega)⟩
        have hof : wo.frozen? ⟨w.heap.size, k, none⟩ = false := by obtain ⟨V, h1, _⟩ := hO; exact h1.frozen k
        have hsz : w.heap.size < wo.heap.size := by obtain ⟨V, h1, _⟩ := hO; exact h1.lt
        obtain ⟨u, hu⟩ := hot
        clear ha hO
        generalize qs.getD k [] = bs at *
        have hmk5 := run_make_row' (P := Try.prog) 24 5 (.int .u8 0) 1 Try.underlying24 info5 rfl .i64 .i64 bs.length (by omega) (by omega)
        by_cases h0 : 0 < bs.length
        · obtain ⟨b', o', hx, hcl⟩ := hcell h0
          cases hx
          have HCl : Hid (∀ j, j < bs.length → wo.cell? ⟨b', o' + j, none⟩ = some (.int .u8 (bs.getD j 0))) := hcl
          have hb' : b' < wo.heap.size := World.block_lt_of_cell? _ _ (hcl 0 h0)
          clear hcell hcl
          go_wp2
          have R0 : (wo.alloc (.cells (madeCells #[.int .u8 0] bs.length) 5)).rowIs wo.heap.size 5 bs.length (fun j => if j < 0 then .int .u8 (bs.getD j 0) else .int .u8 0) :=
            (World.rowIs_made wo _ _ _).congr (fun i _ => by simp)
          have D0 : Below wo.heap.size wo (wo.alloc (.cells (madeCells #[.int .u8 0] bs.length) 5)) := (Below.refl _ wo).alloc (Nat.le_refl _) _
          go_loopw [7] (fun i wi => ∃ m : Nat, m ≤ bs.length ∧ i = .int .i64 m ∧ wi.rowIs wo.heap.size 5 bs.length (fun j => if j < m then .int .u8 (bs.getD j 0) else .int .u8 0) ∧ Below wo.heap.size wo wi) (fun i _ => bs.length - (intOf i).toNat)
          case atStart => exact ⟨0, Nat.zero_le _, rfl, R0, D0⟩
          case round =>
            obtain ⟨m, hm, rfl, hR, hD⟩ := hrel
            clear R0 D0
            have hsz2 : wo.heap.size < wr.heap.size := hR.lt
            by_cases hlm : m < bs.length
            · have hcx : wr.cell? ⟨b', o' + m, none⟩ = some (.int .u8 (bs.getD m 0)) := (hD.cell (p := ⟨b', o' + m, none⟩) hb').trans (HCl.out m hlm)
              have hcy := hR.cell hlm
              have hfy := hR.frozen m
              have hR' := hR.set m (.int .u8 (bs.getD m 0))
              have HR : Hid ((wr.setCell ⟨wo.heap.size, m, none⟩ (.int .u8 (bs.getD m 0))).rowIs wo.heap.size 5 bs.length (fun j => if j < m + 1 then .int .u8 (bs.getD j 0) else .int .u8 0)) :=
                hR'.congr (fun i _ => by
                  by_cases e : i = m
                  · subst e; simp
                  · rw [if_neg e]
                    by_cases e2 : i < m
                    · rw [if_pos e2, if_pos (by omega)]
                    · rw [if_neg e2, if_neg (by omega)])
              have HD : Hid (Below wo.heap.size wo (wr.setCell ⟨wo.heap.size, m, none⟩ (.int .u8 (bs.getD m 0)))) := hD.setCell (p := ⟨wo.heap.size, m, none⟩) (Nat.le_refl _) _
              clear hR hR' hD
              generalize bs.getD m 0 = z at *
              go_wp2
              go_roundw
              case rel => exact ⟨m + 1, by omega, by go_num, HR.out, HD.out⟩
              case measure => simp [intOf]; omega
            · have hO' := hst.out wr hD (hR.congr (fun i hi => by rw [if_pos (by omega)]))
              have hB' : Below w.heap.size w (wr.setCell ⟨w.heap.size, k, none⟩ (.slice (some ⟨wo.heap.size, 0, none⟩) bs.length bs.length)) := (hB.trans (hD.mono (by omega))).setCell (p := ⟨w.heap.size, k, none⟩) (Nat.le_refl _) _
              have hu' : wr.cell? ⟨w.heap.size, k, none⟩ = some u := (hD.cell (p := ⟨w.heap.size, k, none⟩) hsz).trans hu
              have hof' : wr.frozen? ⟨w.heap.size, k, none⟩ = false := (hD.frozen (p := ⟨w.heap.size, k, none⟩) hsz).trans hof
              clear hR hD hB hu hof
              go_wp2
              go_roundw
              case rel => exact ⟨k + 1, by omega, by go_num, hO', hB'⟩
              case measure => simp [intOf]; omega
        · have D0 : Below wo.heap.size wo (wo.alloc (.cells (madeCells #[.int .u8 0] bs.length) 5)) := (Below.refl _ wo).alloc (Nat.le_refl _) _
          have hO' := hst.out (wo.alloc (.cells (madeCells #[.int .u8 0] bs.length) 5)) D0 ((World.rowIs_made wo _ _ _).congr (fun i hi => absurd hi (by omega)))
          have hB' : Below w.heap.size w ((wo.alloc (.cells (madeCells #[.int .u8 0] bs.length) 5)).setCell ⟨w.heap.size, k, none⟩ (.slice (some ⟨wo.heap.size, 0, none⟩) bs.length bs.length)) := (hB.trans (D0.mono (by omega))).setCell (p := ⟨w.heap.size, k, none⟩) (Nat.le_refl _) _
          have hu' : (wo.alloc (.cells (madeCells #[.int .u8 0] bs.length) 5)).cell? ⟨w.heap.size, k, none⟩ = some u := (D0.cell (p := ⟨w.heap.size, k, none⟩) hsz).trans hu
          have hof' : (wo.alloc (.cells (madeCells #[.int .u8 0] bs.length) 5)).frozen? ⟨w.heap.size, k, none⟩ = false := (D0.frozen (p := ⟨w.heap.size, k, none⟩) hsz).trans hof
          clear hcell D0
          go_wp2
          generalize wo.alloc (.cells (madeCells #[.int .u8 0] bs.length) 5) = wm at *
          refine wp_loop_rounds 1 ?_
          rw [rounds_succ]
          go_wp2
          go_roundw
          case rel => exact ⟨k + 1, by omega, by go_num, hO', hB'⟩
          case measure => simp [intOf]; omega
    · have hfin := hO.done (by omega)
      go_wp2
      go_ret
      exact ⟨rfl, hfin, hB⟩
end Go.Proofs.Qxb6630770a
