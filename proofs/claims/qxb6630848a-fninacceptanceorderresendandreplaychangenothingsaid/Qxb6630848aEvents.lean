/-
  InAcceptanceOrder at every slice; b1TrailEvents.
-/
import Derived.Test.Qxb6630848aOrder
namespace Go.Proofs.Qxb6630848a
open Go.RowKit Go.Maps Go.WideMaps

theorem order_none (a : Option Addr) (n c : Nat) (w : World) (h0 : ¬ 0 < n) :
    Calls Try.prog 7 #[.slice a n c] w fun e w' => e = .returned (.slice none 0 0) ∧ Below w.heap.size w w' := by
  have hmm := @run_makeMap Try.prog
  go_enter Try.func7, Try.ntmps7
  go_wp2
  refine wp_loop_rounds 1 ?_
  rw [rounds_succ]
  go_wp2
  go_ret
  exact ⟨rfl, (Below.refl _ w).alloc (Nat.le_refl _) _⟩

def IdsOk (es : List Ev) : Prop := ∀ e, e ∈ es → e.id.size ≤ maxLen

theorem EvS.nil (w : World) : EvS w (.slice none 0 0) [] := ⟨none, 0, rfl, fun _ => ⟨rfl, rfl⟩, Nat.le_refl _, fun h => absurd h (Nat.lt_irrefl _)⟩

theorem order_any (v : Value) (es : List Ev) (w : World) (hn : es.length ≤ 65536) (hv : EvS w v es) (hid : IdsOk es) :
    Calls Try.prog 7 #[v] w fun e w' => ∃ v', e = .returned v' ∧ EvS w' v' (fst es) ∧ (v' = .slice none 0 0 ↔ es.length = 0) ∧ Below w.heap.size w w' := by
  obtain ⟨a, c, rfl, _, _, h4⟩ := hv
  by_cases h0 : 0 < es.length
  · obtain ⟨b, o, rfl, hc⟩ := h4 h0
    exact order_some b o es.length c es w rfl hn hc hid
  · have e0 : es = [] := List.eq_nil_of_length_eq_zero (by omega)
    refine (order_none a es.length c w h0).mono ?_
    rintro e w' ⟨he, hb⟩
    refine ⟨_, he, ?_, ⟨fun _ => by omega, fun _ => rfl⟩, hb⟩
    rw [e0]
    exact EvS.nil w'

theorem q22 (w : World) (a : Option Addr) (n c n' c' : Nat) : (binOp .eql 22 (.slice a n c) (.slice none n' c')).run Try.prog w = .ok (.bool a.isNone) w := Lib.run_eql_slice_nil w _ _ a n c n' c' Try.underlying22
theorem q24 (w : World) (a : Option Addr) (n c n' c' : Nat) : (binOp .eql 24 (.slice a n c) (.slice none n' c')).run Try.prog w = .ok (.bool a.isNone) w := Lib.run_eql_slice_nil w _ _ a n c n' c' Try.underlying24

/-- b1TrailEvents after k rounds. -/
structure Cop (w wr : World) (B n k : Nat) (es : List Ev) : Prop where
  own : ∃ xs, wr.ownsRow B 29 4 (.slice (some ⟨B, 0, none⟩) n n) n xs ∧ xs.take (k * 4) = flatC (es.take k)
  bel : Below B w wr

theorem take_set4 (xs : List Value) (q : Nat) (h : q + 4 ≤ xs.length) (a b c d : Value) : ((((xs.set q a).set (q + 1) b).set (q + 2) c).set (q + 3) d).take (q + 4) = xs.take q ++ [a, b, c, d] := by
  apply List.ext_getElem?
  intro j
  have hlt : (xs.take q).length = q := by simp; omega
  by_cases h1 : j < q
  · rw [List.getElem?_append_left (by omega), List.getElem?_take, List.getElem?_take, if_pos h1, if_pos (by omega)]
    rw [List.getElem?_set_ne (by omega), List.getElem?_set_ne (by omega), List.getElem?_set_ne (by omega), List.getElem?_set_ne (by omega)]
  · obtain ⟨r, rfl⟩ : ∃ r, j = q + r := ⟨j - q, by omega⟩
    rw [List.getElem?_append_right (by omega), hlt, Nat.add_sub_cancel_left, List.getElem?_take]
    match r with
    | 0 => rw [if_pos (by omega), List.getElem?_set_ne (by omega), List.getElem?_set_ne (by omega), List.getElem?_set_ne (by omega)]; simp [show q < xs.length by omega]
    | 1 => rw [if_pos (by omega), List.getElem?_set_ne (by omega), List.getElem?_set_ne (by omega)]; simp [show q + 1 < xs.length by omega]
    | 2 => rw [if_pos (by omega), List.getElem?_set_ne (by omega)]; simp [show q + 2 < xs.length by omega]
    | 3 => rw [if_pos (by omega)]; simp [show q + 3 < xs.length by omega]
    | r + 4 => rw [if_neg (by omega)]; simp

theorem Cop.step {w wr : World} {B n k : Nat} {es : List Ev} (h : Cop w wr B n k es) (hl : es.length = n) (hk : k < n) (i t r : ByteArray) (m : Option Nat) (he : es.getD k ev0 = ⟨i, t, r, m⟩) :
    Cop w ((((wr.setCell ⟨B, k * 4, none⟩ (.string i)).setCell ⟨B, k * 4 + 1, none⟩ (.string t)).setCell ⟨B, k * 4 + 2, none⟩ (.string r)).setCell ⟨B, k * 4 + 3, none⟩ (.map m)).drew B n (k + 1) es := by
  obtain ⟨⟨xs, hown, htk⟩, hbel⟩ := h
  have h1 := (hown.stored (k * 4) (.string i)).1
  have h2 := (h1.stored (k * 4 + 1) (.string t)).1
  have h3 := (h2.stored (k * 4 + 2) (.string r)).1
  have h4 := (h3.stored (k * 4 + 3) (.map m)).1
  have hxl := hown.1
  refine ⟨⟨_, h4.drew, ?_⟩, ?_⟩
  · rw [show (k + 1) * 4 = k * 4 + 4 from by omega, take_set4 _ _ (by omega), htk, List.take_succ_eq_append_getElem (by omega), flatC_snoc]
    have e1 : es[k]'(by omega) = ⟨i, t, r, m⟩ := by rw [← he]; simp [show k < es.length by omega]
    rw [e1]
    rfl
  · exact ((((hbel.setCell (p := ⟨B, k * 4, none⟩) (Nat.le_refl _) _).setCell (p := ⟨B, k * 4 + 1, none⟩) (Nat.le_refl _) _).setCell (p := ⟨B, k * 4 + 2, none⟩) (Nat.le_refl _) _).setCell (p := ⟨B, k * 4 + 3, none⟩) (Nat.le_refl _) _).drew

theorem Cop.done {w wr : World} {B n k : Nat} {es : List Ev} (h : Cop w wr B n k es) (hl : es.length = n) (hk : n ≤ k) : EvS wr (.slice (some ⟨B, 0, none⟩) n n) es := by
  obtain ⟨xs, hown, htk⟩ := h.own
  rw [List.take_of_length_le (by rw [hown.1]; omega), List.take_of_length_le (by omega)] at htk
  subst hl
  rw [htk] at hown
  exact EvS.owned hown

set_option maxHeartbeats 2000000 in
theorem events_some (b o n c : Nat) (es : List Ev) (w : World) (hl : es.length = n) (hn : n ≤ 4096)
    (hc : ∀ i, i < n → w.rangeAt b (o + i * 4) (es.getD i ev0).cells) :
    Calls Try.prog 6 #[.slice (some ⟨b, o, none⟩) n c] w fun e w' => e = .returned (.slice (some ⟨w.heap.size, 0, none⟩) n n) ∧ EvS w' (.slice (some ⟨w.heap.size, 0, none⟩) n n) es ∧ Below w.heap.size w w' := by
  have HC : Hid (∀ i, i < n → w.rangeAt b (o + i * 4) (es.getD i ev0).cells) := hc
  clear hc
  have h22 := q22
  obtain ⟨i0, hi, hz0, hz1, hz2⟩ := info_parts info29
  go_enter Try.func6, Try.ntmps6
  go_wp2_with (at_make; refine wpList_make_full _ rfl _ _ 24 rfl w.heap.size 29 i0 _ 4 Try.underlying24 hi hz0 hz1 .i64 .i64 _ _ n rfl rfl rfl rfl (by rw [hz2]; omega) (by unfold maxLen; omega) (Nat.le_refl _) ?_; intro w1 hown hgrow)
  have C0 : Cop w w1 w.heap.size n 0 es := ⟨⟨_, hown, by simp [flatC]⟩, (Below.refl _ w).grown hgrow (Nat.le_refl _) (fun k hk => by cases hk)⟩
  clear hown hgrow
  go_loopw [4] (fun i wr => ∃ k : Nat, k ≤ n ∧ i = .int .i64 k ∧ Cop w wr w.heap.size n k es) (fun i _ => n - (intOf i).toNat)
  case atStart => exact ⟨0, Nat.zero_le _, rfl, C0⟩
  case round =>
    obtain ⟨k, hk, rfl, hC⟩ := hrel
    clear C0
    by_cases hlt : k < n
    · have hb : b < w.heap.size := World.block_lt_of_cell? _ _ (range_id (HC.out k hlt))
      have hr : wr.rangeAt b (o + k * 4) (es.getD k ev0).cells := fun i u hu => (hC.bel.cell (p := ⟨b, _, none⟩) hb).trans (HC.out k hlt i u hu)
      have x0 := range_id hr
      have x1 := range_tm hr
      have x2 := range_raw hr
      have x3 := range_mp hr
      have HST : Hid (∀ i t r m, es.getD k ev0 = ⟨i, t, r, m⟩ → Cop w ((((wr.setCell ⟨w.heap.size, k * 4, none⟩ (.string i)).setCell ⟨w.heap.size, k * 4 + 1, none⟩ (.string t)).setCell ⟨w.heap.size, k * 4 + 2, none⟩ (.string r)).setCell ⟨w.heap.size, k * 4 + 3, none⟩ (.map m)).drew w.heap.size n (k + 1) es) := fun i t r m he => hC.step hl hlt i t r m he
      obtain ⟨xs, hown, htk⟩ := hC.own
      have hki : (k : Int) < (n : Int) := by omega
      have hxl := hown.1
      have c0 := hown.cellAt (k * 4) (by omega)
      have c1 := hown.cellAt (k * 4 + 1) (by omega)
      have c2 := hown.cellAt (k * 4 + 2) (by omega)
      have c3 := hown.cellAt (k * 4 + 3) (by omega)
      rw [List.getElem?_eq_getElem (by omega)] at c0 c1 c2 c3
      have f0 := hown.frozenAt (k * 4)
      have f1 := hown.frozenAt (k * 4 + 1)
      have f2 := hown.frozenAt (k * 4 + 2)
      have f3 := hown.frozenAt (k * 4 + 3)
      generalize xs[k * 4]'_ = y0 at *
      generalize xs[k * 4 + 1]'_ = y1 at *
      generalize xs[k * 4 + 2]'_ = y2 at *
      generalize xs[k * 4 + 3]'_ = y3 at *
      clear hr hown htk hxl hC
      obtain ⟨ev, hev⟩ : ∃ ev, es.getD k ev0 = ev := ⟨_, rfl⟩
      rw [hev] at x0 x1 x2 x3
      obtain ⟨i1, t1, r1, m1⟩ := ev
      have HST' := HST.out i1 t1 r1 m1 hev
      simp only at x0 x1 x2 x3
      clear HST hev
      go_wp2_with fail
      go_region
      go_wp2
      go_roundw
      case rel => exact ⟨k + 1, by omega, by go_num, HST'⟩
      case measure => simp [intOf]; omega
    · have hfin := hC.done hl (by omega)
      have hB := hC.bel
      clear hC
      go_wp2
      go_ret
      exact ⟨rfl, hfin, hB⟩

theorem events_empty (x : Addr) (n c : Nat) (w : World) (h0 : ¬ 0 < n) :
    Calls Try.prog 6 #[.slice (some x) n c] w fun e w' => e = .returned (.slice (some ⟨w.heap.size, 0, none⟩) n n) ∧ Below w.heap.size w w' := by
  have h22 := q22
  obtain ⟨i0, hi, hz0, hz1, hz2⟩ := info_parts info29
  go_enter Try.func6, Try.ntmps6
  go_wp2_with (at_make; refine wpList_make_full _ rfl _ _ 24 rfl w.heap.size 29 i0 _ 4 Try.underlying24 hi hz0 hz1 .i64 .i64 _ _ n rfl rfl rfl rfl (by rw [hz2]; omega) (by unfold maxLen; omega) (Nat.le_refl _) ?_; intro w1 hown hgrow)
  have hB : Below w.heap.size w w1 := (Below.refl _ w).grown hgrow (Nat.le_refl _) (fun k hk => by cases hk)
  clear hown hgrow
  refine wp_loop_rounds 1 ?_
  rw [rounds_succ]
  go_wp2
  go_ret
  exact ⟨rfl, hB⟩

theorem events_nil (n c : Nat) (w : World) : Calls Try.prog 6 #[.slice none n c] w fun e w' => e = .returned (.slice none 0 0) ∧ w' = w := by
  have h22 := q22
  go_enter Try.func6, Try.ntmps6
  go_wp2
  go_ret
  exact ⟨rfl, rfl⟩

theorem events_any (v : Value) (es : List Ev) (w : World) (hn : es.length ≤ 4096) (hv : EvS w v es) :
    Calls Try.prog 6 #[v] w fun e w' => ∃ v', e = .returned v' ∧ EvS w' v' es ∧ Below w.heap.size w w' := by
  obtain ⟨a, c, rfl, ha, _, h4⟩ := hv
  by_cases h0 : 0 < es.length
  · obtain ⟨b, o, rfl, hc⟩ := h4 h0
    exact (events_some b o es.length c es w rfl hn hc).mono fun e w' ⟨h1, h2, h3⟩ => ⟨_, h1, h2, h3⟩
  · have e0 : es = [] := List.eq_nil_of_length_eq_zero (by omega)
    cases a with
    | none =>
      refine (events_nil es.length c w).mono fun e w' ⟨h1, h2⟩ => ⟨_, h1, ?_, by rw [h2]; exact Below.refl _ _⟩
      rw [e0]; exact EvS.nil w'
    | some x =>
      refine (events_empty x es.length c w h0).mono fun e w' ⟨h1, h2⟩ => ⟨_, h1, ?_, h2⟩
      rw [e0]
      exact ⟨_, _, rfl, (fun h => by cases h), Nat.le_refl _, fun h => absurd h (Nat.lt_irrefl _)⟩
end Go.Proofs.Qxb6630848a
