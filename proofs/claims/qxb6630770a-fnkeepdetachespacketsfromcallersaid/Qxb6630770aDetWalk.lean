/-
  FnKeepDetachesPacketsFromCaller: the walk.
-/
import Derived.Test.Qxb6630770aOver
namespace Go.Proofs.Qxb6630770a
open Go.RowKit


theorem Pkts.lens {w : World} {b off n : Nat} {qs : List (List Int)} (h : Pkts w b off qs) (hl : qs.length = n) (hm : ∀ i, i < n → (qs.getD i []).length ≤ 9223372036854775807) : Lens w b off n (fun i => (qs.getD i []).length) := by
  intro i hi
  obtain ⟨v, hv, a, c, rfl, _⟩ := h i (by omega)
  exact ⟨hm i hi, a, c, hv⟩

set_option maxHeartbeats 4000000 in
set_option maxRecDepth 100000 in
theorem det_some (b off n c : Nat) (size sent queued : Int) (qs : List (List Int)) (w : World) (hl : qs.length = n) (hn : n ≤ 9223372036854775807) (hq : Pkts w b off qs)
    (hlm : ∀ i, i < n → (qs.getD i []).length ≤ 9223372036854775807) :
    Calls Try.prog 3 #[.int .i64 size, .slice (some ⟨b, off, none⟩) n c, .int .i64 sent, .int .i64 queued] w fun e w' => e = .returned (.bool true) ∧ Below w.heap.size w w' := by
  have hL : Hid (Lens w b off n (fun i => (qs.getD i []).length)) := hq.lens hl hlm
  have HQ : Hid (Pkts w b off qs) := hq
  have HM : Hid (∀ i, i < n → (qs.getD i []).length ≤ 9223372036854775807) := hlm
  clear hq hlm
  have hn22 := n22
  go_enter Try.func3, Try.ntmps3
  go_wp2_with fail
  refine (bytes_some b off n c _ size sent queued _ hn hL.out).mono ?_
  rintro e w ⟨⟨x, rfl, hx5⟩, rfl⟩
  cases x with
  | false =>
    go_wp2
    go_ret
    exact ⟨rfl, Below.refl _ _⟩
  | true =>
    have HX : Hid (∀ i, i < n → (qs.getD i []).length ≤ 1048576) := hx5 rfl
    clear hx5
    by_cases h1 : 32768 < n
    · go_wp2
      go_ret
      exact ⟨rfl, Below.refl _ _⟩
    go_wp2
    go_loop [9, 10] (fun t i => ∃ k : Nat, k ≤ n ∧ i = .int .i64 k ∧ t = .int .i64 ((24 * n + octs (qs.take k) : Nat) : Int) ∧ 24 * n + octs (qs.take k) ≤ 1048576) (fun _ i => n - (intOf i).toNat)
    case atStart => exact ⟨0, Nat.zero_le _, rfl, by simp [octs], by simp [octs]; omega⟩
    case round =>
      obtain ⟨k, hk, rfl, rfl, hz⟩ := hrel
      by_cases hlt : k < n
      · obtain ⟨_, a, c', hx⟩ := hL.out k hlt
        have hm := HX.out k hlt
        have hsn : Hid (octs (qs.take (k + 1)) = octs (qs.take k) + (qs.getD k []).length) := octs_snoc qs k (by omega)
        simp only at hm hx
        generalize (qs.getD k []).length = l at *
        generalize octs (qs.take k) = s at *
        by_cases h2 : 1048576 < 24 * n + s + l
        · go_wp2
          go_ret
          exact ⟨rfl, Below.refl _ _⟩
        go_wp2
        go_round
        case rel => exact ⟨k + 1, by omega, by go_num, by rw [hsn.out]; go_num, by rw [hsn.out]; omega⟩
        case measure => simp [intOf]; omega
      · have HT : Hid (qs.take k = qs) := List.take_of_length_le (by omega)
        rw [HT.out] at hz ⊢
        have ho : octs qs ≤ 1048576 := by omega
        obtain ⟨T, hT⟩ : ∃ T, T = octs qs := ⟨_, rfl⟩
        rw [← hT] at hz ho ⊢
        have HO : Hid (octs qs = T) := hT.symm
        clear hT
        by_cases g1 : sent < 0
        · go_wp2_with fail
          go_ret
          exact ⟨rfl, Below.refl _ _⟩
        by_cases g2 : queued < 0
        · go_wp2_with fail
          go_ret
          exact ⟨rfl, Below.refl _ _⟩
        by_cases g3 : 1048576 < sent
        · go_wp2_with fail
          go_ret
          exact ⟨rfl, Below.refl _ _⟩
        by_cases g4 : 1048576 < queued
        · go_wp2_with fail
          go_ret
          exact ⟨rfl, Below.refl _ _⟩
        by_cases g5 : ¬ sent + queued = (T : Int)
        · have g5' : (sent + queued != (T : Int)) = true := by simpa using g5
          clear g5
          go_wp2_with fail
          go_ret
          exact ⟨rfl, Below.refl _ _⟩
        have g5e : sent + queued = (T : Int) := by omega
        have G5 : Hid (sent + queued = (T : Int)) := g5e
        have g5' : (sent + queued != (T : Int)) = false := by simpa using g5
        clear g5 g5e
        by_cases g6 : 0 < sent ∧ n = 0
        · obtain ⟨g7, g8⟩ := g6
          have g8' : ((n : Int) == 0) = true := by simpa using g8
          clear g8
          go_wp2_with fail
          go_ret
          exact ⟨rfl, Below.refl _ _⟩
        have hL0 : Hid (0 < n → ∃ a c', w.cell? ⟨b, off, none⟩ = some (.slice a (qs.getD 0 []).length c')) := fun h => (hL.out 0 h).2
        generalize (qs.getD 0 []).length = l0 at *
        have hOc : octs qs ≤ 1048576 := by rw [HO.out]; omega
        have hmk := run_make_row' (P := Try.prog) 22 24 (.slice none 0 0) 24 Try.underlying22 info24 rfl .i64 .i64 n (by omega) (by omega)
        by_cases g9 : 0 < sent
        case' pos =>
          have g8' : ((n : Int) == 0) = false := by simp; omega
          have g8i : (0 : Int) < (n : Int) := by omega
          obtain ⟨a0, c0, hx0⟩ := hL0.out (by omega)
          clear g6
          by_cases g10 : (l0 : Int) < sent
          · go_wp2_with fail
            go_ret
            exact ⟨rfl, Below.refl _ _⟩
          go_wp2_with fail
          clear hx0 g10 g8'
        case' neg =>
          clear g6
          go_wp2_with fail
        all_goals
          clear hL0 g9
          refine (clone_some b off n c qs _ (by omega) hl hOc HQ.out).mono ?_
          rintro e w1 ⟨rfl, q1, b1⟩
          go_wp2_with fail
          refine (clone_some b off n c qs _ (by omega) hl hOc (HQ.out.kept (keeps b1))).mono ?_
          rintro e w2 ⟨rfl, q2, b2⟩
          obtain ⟨V, hV1, hV2⟩ := q1
          have hV1' : w2.rowIs w.heap.size 24 n V := by rw [hl] at hV1; exact hV1.of_block (b2.block _ hV1.lt)
          have HV2 : Hid (∀ i, i < n → OwnPkt w1 w.heap.size (V i) (qs.getD i [])) := fun i hi => hV2 i (by omega)
          have HSh : Hid (∀ i, i < n → ∃ a l, V i = .slice a l l) := by
            intro i hi
            rcases hV2 i (by omega) with ⟨h, _⟩ | ⟨g, h, _⟩
            · exact ⟨_, _, h⟩
            · exact ⟨_, _, h⟩
          have hs1 := hV1.lt
          have hs2 : w1.heap.size < w2.heap.size := by obtain ⟨V2, g1, _⟩ := q2; exact g1.lt
          clear hV2 hV1
          go_wp2_with fail
          have R0 : (w2.alloc (.cells (madeCells #[.slice none 0 0] n) 24)).rowIs w2.heap.size 24 n (fun i => if i < 0 then V i else .slice none 0 0) :=
            (World.rowIs_made w2 _ _ _).congr (fun i _ => by simp)
          have D0 : Below w2.heap.size w2 (w2.alloc (.cells (madeCells #[.slice none 0 0] n) 24)) := (Below.refl _ w2).alloc (Nat.le_refl _) _
          go_loopw [15] (fun i wr => ∃ m : Nat, m ≤ n ∧ i = .int .i64 m ∧ wr.rowIs w2.heap.size 24 n (fun j => if j < m then V j else .slice none 0 0) ∧ Below w2.heap.size w2 wr) (fun i _ => n - (intOf i).toNat)
          case atStart => exact ⟨0, Nat.zero_le _, rfl, R0, D0⟩
          case round =>
            rename World => w4
            obtain ⟨m, hm, rfl, hR, hD⟩ := hrel
            clear R0 D0
            by_cases hmn : m < n
            · have hcx : w4.cell? ⟨w.heap.size, m, none⟩ = some (V m) := (hD.cell (p := ⟨w.heap.size, m, none⟩) (by show w.heap.size < w2.heap.size; omega)).trans (hV1'.cell hmn)
              have hcy := hR.cell hmn
              have hfy := hR.frozen m
              obtain ⟨a, l, hVm⟩ := HSh.out m hmn
              have HR : Hid ((w4.setCell ⟨w2.heap.size, m, none⟩ (V m)).rowIs w2.heap.size 24 n (fun j => if j < m + 1 then V j else .slice none 0 0)) :=
                (hR.set m (V m)).congr (fun i _ => by
                  by_cases e : i = m
                  · subst e; simp
                  · rw [if_neg e]
                    by_cases e2 : i < m
                    · rw [if_pos e2, if_pos (by omega)]
                    · rw [if_neg e2, if_neg (by omega)])
              have HD : Hid (Below w2.heap.size w2 (w4.setCell ⟨w2.heap.size, m, none⟩ (V m))) := hD.setCell (p := ⟨w2.heap.size, m, none⟩) (Nat.le_refl _) _
              rw [hVm] at hcx HR HD
              clear hR hD hVm
              go_wp2
              go_roundw
              case rel => exact ⟨m + 1, by omega, by go_num, HR.out, HD.out⟩
              case measure => simp [intOf]; omega
            · have hR4 : w4.rowIs w2.heap.size 24 n V := hR.congr (fun i hi => by rw [if_pos (by omega)])
              have hs4 := hR4.lt
              clear hR
              go_wp2_with fail
              refine (enc_any size sent queued (some ⟨w2.heap.size, 0, none⟩) n n _).mono ?_
              rintro e w5 ⟨rfl, hw5⟩
              have hB5 : Below w4.heap.size w4 w5 := by rw [hw5]; exact (Below.refl _ w4).alloc (Nat.le_refl _) _
              have hs5 : w5.heap.size = w4.heap.size + 1 := by rw [hw5]; simp
              have e0 : w5.cell? ⟨w4.heap.size, 0, none⟩ = some (.int .i64 size) := by rw [hw5]; simp
              have e1 : w5.cell? ⟨w4.heap.size, 1, none⟩ = some (.slice (some ⟨w2.heap.size, 0, none⟩) n n) := by rw [hw5]; simp
              have e2 : w5.cell? ⟨w4.heap.size, 2, none⟩ = some (.int .i64 sent) := by rw [hw5]; simp
              have e3 : w5.cell? ⟨w4.heap.size, 3, none⟩ = some (.int .i64 queued) := by rw [hw5]; simp
              have hV5 : w5.rowIs w2.heap.size 24 n V := hR4.of_block (hB5.block _ hs4)
              have hblk : ∀ j, j < w1.heap.size → w5.heap[j]? = w1.heap[j]? := fun j hj => ((hB5.block j (by omega)).trans (hD.block j (by omega))).trans (b2.block j hj)
              have hP5 : ∀ i, i < n → PktIn (· ≠ w2.heap.size) w5 (V i) (qs.getD i []) := fun i hi => (HV2.out i hi).off (by omega) hblk
              have hz5 : T = 0 → ∀ i, i < n → ∃ a, V i = .slice a 0 0 := by
                intro h0 i hi
                have hlen : (qs.getD i []).length = 0 := by have h3 := len_le_octs qs i (by omega); have h4 := HO.out; omega
                rcases HV2.out i hi with ⟨h, _⟩ | ⟨g, h, _⟩
                · exact ⟨_, h⟩
                · rw [hlen] at h; exact ⟨_, h⟩
              have hqs : queued + sent = (T : Int) := by have := G5.out; omega
              have HB1 : Hid (w5.rowIs w.heap.size 24 n V) := hV1'.of_block ((hB5.block _ (by omega)).trans (hD.block _ (by omega)))
              have HQ2 : Hid (OwnQ w2 w1.heap.size qs) := q2
              have HB25 : Hid (Below w2.heap.size w2 w5) := hD.trans (hB5.mono (by omega))
              have HBel : Hid (Below w.heap.size w w5) := ((b1.trans (b2.mono (by omega))).trans (hD.mono (by omega))).trans (hB5.mono (by omega))
              have HBlk : Hid (∀ j, j < w1.heap.size → w5.heap[j]? = w1.heap[j]?) := hblk
              clear hw5 hR4 hB5 hblk hD b2 b1 q2 hV1'
              go_wp2_with fail
              refine (keep_any w4.heap.size w2.heap.size n n T sent queued qs V w5 HO.out (by omega) (by omega) (by omega) hqs e1 e2 e3 hl (by omega) hV5 hP5 (by omega) hz5).mono ?_
              rintro e w6 ⟨rfl, kq, gr⟩
              clear hqs hz5 hP5 hV5
              have hgs := gr.size
              have d0 := gr.cell e0 (by simp; omega)
              have d1 := gr.cell e1 (by simp; omega)
              have d2 := gr.cell e2 (by simp; omega)
              have d3 := gr.cell e3 (by simp; omega)
              have I0 : Inv w6 w6 w.heap.size w1.heap.size n V := ⟨Over.refl _ _ _, fun i hi => (HV2.out i hi).soft rfl (by have h3 := len_le_octs qs i (by omega); omega)
                (fun j _ hj => (gr.block j (by omega) (by simp; omega)).trans (HBlk.out j hj))⟩
              have HB6 : Hid (w6.rowIs w.heap.size 24 n V) := HB1.out.of_block (gr.block _ (by omega) (by simp; omega))
              have HQ6 : Hid (OwnQ w6 w1.heap.size qs) := HQ2.out.below (HB25.out.grown gr (by omega) (fun j hj => by cases hj; exact Nat.le_refl _))
              have HBel6 : Hid (Below w.heap.size w w6) := HBel.out.grown gr (by omega) (fun j hj => by cases hj; omega)
              clear e0 e1 e2 e3 HB1 HQ2 HBel HBlk HB25
              go_wp2_with fail
              go_loopw [17] (fun i wr => ∃ m : Nat, m ≤ n ∧ i = .int .i64 m ∧ Inv w6 wr w.heap.size w1.heap.size n V) (fun i _ => n - (intOf i).toNat)
              case atStart => exact ⟨0, Nat.zero_le _, rfl, I0⟩
              case round =>
                rename World => w7
                obtain ⟨p, hp, rfl, hI⟩ := hrel
                clear I0
                by_cases hpn : p < n
                · have hcx : w7.cell? ⟨w.heap.size, p, none⟩ = some (V p) := (HB6.out.of_block (hI.over.block w.heap.size (by omega))).cell hpn
                  rcases hI.soft p hpn with hv | ⟨g, l, hv, hlb, hg1, hg2, _⟩
                  · rw [hv] at hcx
                    clear hv
                    go_wp2_with fail
                    refine wp_loop_rounds 1 ?_
                    rw [rounds_succ]
                    go_wp2_with fail
                    go_roundw
                    case rel => exact ⟨p + 1, by omega, by go_num, hI⟩
                    case measure => simp [intOf]; omega
                  · rw [hv] at hcx
                    have HV : Hid (V p = .slice (some ⟨g, 0, none⟩) l l) := hv
                    clear hv
                    go_wp2_with fail
                    go_loopw [19] (fun i wr => ∃ j : Nat, j ≤ l ∧ i = .int .i64 j ∧ Inv w6 wr w.heap.size w1.heap.size n V) (fun i _ => l - (intOf i).toNat)
                    case atStart => exact ⟨0, Nat.zero_le _, rfl, hI⟩
                    case round =>
                      rename World => w8
                      obtain ⟨j, hj, rfl, hJ⟩ := hrel
                      clear hI
                      by_cases hjl : j < l
                      · obtain ⟨f, hf⟩ := hJ.row hpn HV.out
                        have hcf := hf.cell hjl
                        have hff := hf.frozen j
                        have HJ : Hid (∀ y, Inv w6 (w8.setCell ⟨g, j, none⟩ (.int .u8 y)) w.heap.size w1.heap.size n V) := fun y => hJ.setCell g j hg1 hg2 y
                        clear hf hJ
                        generalize f j = y0 at *
                        go_wp2_with fail
                        go_roundw
                        case rel => exact ⟨j + 1, by omega, by go_num, HJ.out _⟩
                        case measure => simp [intOf]; omega
                      · go_wp2_with fail
                        go_roundw
                        case rel => exact ⟨p + 1, by omega, by go_num, hJ⟩
                        case measure => simp [intOf]; omega
                · have k1 : Pkts w7 w2.heap.size 0 qs := (kq.of_block (hI.over.block w2.heap.size (by omega)) (hI.over.block w5.heap.size (by omega))).pkts
                  have k2 : Pkts w7 w1.heap.size 0 qs := (HQ6.out.over hI.over (Nat.le_refl _)).pkts
                  have k3 : Below w.heap.size w w7 := HBel6.out.trans (hI.over.below (by omega))
                  have f0 := (hI.over.cell w4.heap.size 0 (by omega)).trans d0
                  have f1 := (hI.over.cell w4.heap.size 1 (by omega)).trans d1
                  have f2 := (hI.over.cell w4.heap.size 2 (by omega)).trans d2
                  have f3 := (hI.over.cell w4.heap.size 3 (by omega)).trans d3
                  clear hI d0 d1 d2 d3 kq gr
                  go_wp2_with (go_at_call 9; go_in)
                  refine (sames_some w2.heap.size 0 w1.heap.size 0 n n n qs _ hl (by omega) hOc k1 k2).mono ?_
                  rintro e w8 ⟨rfl, q, rfl⟩
                  clear k1 k2
                  go_wp2
                  go_ret
                  exact ⟨rfl, ⟨k3.os, k3.tape, k3.output, k3.size, k3.block⟩⟩
end Go.Proofs.Qxb6630770a
