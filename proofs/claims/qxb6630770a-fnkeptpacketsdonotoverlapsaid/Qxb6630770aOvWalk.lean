/-
  FnKeptPacketsDoNotOverlap: the walk.
-/
import Derived.Test.Qxb6630770aOver
import Derived.Test.Qxb6630770aSmall2
import Derived.Test.Qxb6630770aContig
namespace Go.Proofs.Qxb6630770a
open Go.RowKit

theorem Pkts.lens4 {w : World} {b off n : Nat} {qs : List (List Int)} (h : Pkts w b off qs) (hl : qs.length = n) (hm : ∀ i, i < n → (qs.getD i []).length ≤ 9223372036854775807) : Lens w b off n (fun i => (qs.getD i []).length) := by
  intro i hi
  obtain ⟨v, hv, a, c, rfl, _⟩ := h i (by omega)
  exact ⟨hm i hi, a, c, hv⟩

theorem PktIn.move {S S' : Nat → Prop} {w w' : World} {v : Value} {bs : List Int} (h : PktIn S w v bs) (hS : ∀ b, S b → S' b) (hk : ∀ a u, w.cell? a = some u → w'.cell? a = some u) : PktIn S' w' v bs := by
  obtain ⟨a, c, h1, h2, h3, h4⟩ := h
  refine ⟨a, c, h1, h2, h3, fun h0 => ?_⟩
  obtain ⟨b, o, ha, hb, hc⟩ := h4 h0
  exact ⟨b, o, ha, hS b hb, fun j hj => hk _ _ (hc j hj)⟩

theorem src_cells {w : World} {a : Option Addr} {M : Nat} {bs : List Int} (h3 : 0 < bs.length → ∃ o, a = some ⟨M, o, none⟩ ∧ ∀ j, j < bs.length → w.cell? ⟨M, o + j, none⟩ = some (.int .u8 (bs.getD j 0))) :
    ∀ b, a = some b → ∀ j u, (bs.map (Value.int .u8))[j]? = some u → w.cell? (b.add j) = some u := by
  intro b hb j u hu
  have hj : j < bs.length := by have := (List.getElem?_eq_some_iff.1 hu).1; simpa using this
  obtain ⟨o, ha, hc⟩ := h3 (by omega)
  rw [hb] at ha
  cases ha
  rw [Addr.add_lit, hc j hj]
  simp [hj] at hu
  simp [hj, hu]

theorem after_grown {w4 w5 w6 : World} {o : Obj} (hB : Below w4.heap.size w4 w5) (hgr : (w5.alloc o).grownBy w6 none) : Below w4.heap.size w4 w6 :=
  (hB.alloc hB.size _).grown hgr (by have := hB.size; simp; omega) (fun k hk => by cases hk)
theorem cell_grown {w5 w6 : World} {o : Obj} {a : Addr} {v : Value} (h : w5.cell? a = some v) (hgr : (w5.alloc o).grownBy w6 none) : w6.cell? a = some v :=
  hgr.cell (keeps ((Below.refl _ w5).alloc (Nat.le_refl _) _) _ _ h) (by simp)

theorem grown_shape {w : World} {v : Value} {base l : Nat} {bs : List Int} (hl : bs.length = l) (h : w.ownsRow base 5 1 v (l + 1) (bs.map (Value.int .u8) ++ [.int .u8 165])) :
    ∃ g cap, v = .slice (some ⟨g, 0, none⟩) (l + 1) cap ∧ w.cell? ⟨g, l, none⟩ = some (.int .u8 165) := by
  rcases h.2 with ⟨_, h0⟩ | ⟨g, cap, cur, hv, _⟩
  · omega
  · refine ⟨g, cap, hv, ?_⟩
    rw [hv] at h
    rw [h.cellAt l (by omega)]
    simp [← hl]

set_option maxHeartbeats 4000000 in
set_option maxRecDepth 100000 in
theorem ov_some (b off n c : Nat) (size sent queued : Int) (qs : List (List Int)) (w : World) (hl : qs.length = n) (hn : n ≤ 9223372036854775807) (hq : Pkts w b off qs)
    (hlm : ∀ i, i < n → (qs.getD i []).length ≤ 9223372036854775807) :
    Calls Try.prog 4 #[.int .i64 size, .slice (some ⟨b, off, none⟩) n c, .int .i64 sent, .int .i64 queued] w fun e w' => e = .returned (.bool true) ∧ Below w.heap.size w w' := by
  have hL : Hid (Lens w b off n (fun i => (qs.getD i []).length)) := hq.lens4 hl hlm
  have HQ : Hid (Pkts w b off qs) := hq
  have HM : Hid (∀ i, i < n → (qs.getD i []).length ≤ 9223372036854775807) := hlm
  clear hq hlm
  obtain ⟨i0, hi, hz0, hz1, hz2⟩ := info_parts info5
  go_enter Try.func4, Try.ntmps4
  go_wp2_with fail
  refine (bytes14_some b off n c _ size sent queued _ hn hL.out).mono ?_
  rintro e w ⟨⟨x, rfl, hx5⟩, rfl⟩
  cases x with
  | false =>
    go_wp2
    go_ret
    exact ⟨rfl, Below.refl _ _⟩
  | true =>
    have HX : Hid (∀ i, i < n → (qs.getD i []).length ≤ 1048576) := hx5 rfl
    clear hx5
    by_cases h1 : 32768 < n
    · go_wp2
      go_ret
      exact ⟨rfl, Below.refl _ _⟩
    go_wp2
    go_loop [9, 10] (fun t i => ∃ k : Nat, k ≤ n ∧ i = .int .i64 k ∧ t = .int .i64 ((24 * n + octs (qs.take k) : Nat) : Int) ∧ 24 * n + octs (qs.take k) ≤ 1048576) (fun _ i => n - (intOf i).toNat)
    case atStart => exact ⟨0, Nat.zero_le _, rfl, by simp [octs], by simp [octs]; omega⟩
    case round =>
      obtain ⟨k, hk, rfl, rfl, hz⟩ := hrel
      by_cases hlt : k < n
      · obtain ⟨_, a, c', hx⟩ := hL.out k hlt
        have hm := HX.out k hlt
        have hsn : Hid (octs (qs.take (k + 1)) = octs (qs.take k) + (qs.getD k []).length) := octs_snoc qs k (by omega)
        simp only at hm hx
        generalize (qs.getD k []).length = l at *
        generalize octs (qs.take k) = s at *
        by_cases h2 : 1048576 < 24 * n + s + l
        · go_wp2
          go_ret
          exact ⟨rfl, Below.refl _ _⟩
        go_wp2
        go_round
        case rel => exact ⟨k + 1, by omega, by go_num, by rw [hsn.out]; go_num, by rw [hsn.out]; omega⟩
        case measure => simp [intOf]; omega
      · have HT : Hid (qs.take k = qs) := List.take_of_length_le (by omega)
        rw [HT.out] at hz ⊢
        have ho : octs qs ≤ 1048576 := by omega
        obtain ⟨T, hT⟩ : ∃ T, T = octs qs := ⟨_, rfl⟩
        rw [← hT] at hz ho ⊢
        have HO : Hid (octs qs = T) := hT.symm
        clear hT
        by_cases g1 : sent < 0
        · go_wp2_with fail
          go_ret
          exact ⟨rfl, Below.refl _ _⟩
        by_cases g2 : queued < 0
        · go_wp2_with fail
          go_ret
          exact ⟨rfl, Below.refl _ _⟩
        by_cases g3 : 1048576 < sent
        · go_wp2_with fail
          go_ret
          exact ⟨rfl, Below.refl _ _⟩
        by_cases g4 : 1048576 < queued
        · go_wp2_with fail
          go_ret
          exact ⟨rfl, Below.refl _ _⟩
        by_cases g5 : ¬ sent + queued = (T : Int)
        · have g5' : (sent + queued != (T : Int)) = true := by simpa using g5
          clear g5
          go_wp2_with fail
          go_ret
          exact ⟨rfl, Below.refl _ _⟩
        have g5e : sent + queued = (T : Int) := by omega
        have G5 : Hid (sent + queued = (T : Int)) := g5e
        have g5' : (sent + queued != (T : Int)) = false := by simpa using g5
        clear g5 g5e
        by_cases g6 : 0 < sent ∧ n = 0
        · obtain ⟨g7, g8⟩ := g6
          have g8' : ((n : Int) == 0) = true := by simpa using g8
          clear g8
          go_wp2_with fail
          go_ret
          exact ⟨rfl, Below.refl _ _⟩
        have hL0 : Hid (0 < n → ∃ a c', w.cell? ⟨b, off, none⟩ = some (.slice a (qs.getD 0 []).length c')) := fun h => (hL.out 0 h).2
        generalize (qs.getD 0 []).length = l0 at *
        have hOc : octs qs ≤ 1048576 := by rw [HO.out]; omega
        by_cases g9 : 0 < sent
        case' pos =>
          have g8' : ((n : Int) == 0) = false := by simp; omega
          have g8i : (0 : Int) < (n : Int) := by omega
          obtain ⟨a0, c0, hx0⟩ := hL0.out (by omega)
          clear g6
          by_cases g10 : (l0 : Int) < sent
          · go_wp2_with fail
            go_ret
            exact ⟨rfl, Below.refl _ _⟩
          go_wp2_with fail
          clear hx0 g10 g8'
        case' neg =>
          clear g6
          go_wp2_with fail
        all_goals
          clear hL0 g9
          rw [show (24 * (n : Int) + (T : Int) - 24 * (n : Int)) = (T : Int) from by omega]
          refine (contig_some b off n c T qs _ (by omega) hl HO.out (by omega) HQ.out).mono ?_
          rintro e w1 ⟨D, hD0, rfl, ⟨V, hV1, hP1, hzz⟩, b1⟩
          go_wp2_with fail
          refine (clone_some b off n c qs _ (by omega) hl hOc (HQ.out.kept (keeps b1))).mono ?_
          rintro e w2 ⟨rfl, q2, b2⟩
          have hD1 : D < w1.heap.size := hV1.lt
          have hs2 : w1.heap.size < w2.heap.size := by obtain ⟨V2, g1, _⟩ := q2; exact g1.lt
          go_wp2_with fail
          refine (enc_any size sent queued (some ⟨D, 0, none⟩) n n _).mono ?_
          rintro e w3 ⟨rfl, hw3⟩
          have hB3 : Below w2.heap.size w2 w3 := by rw [hw3]; exact (Below.refl _ w2).alloc (Nat.le_refl _) _
          have hs3 : w2.heap.size < w3.heap.size := by rw [hw3]; simp
          have e0 : w3.cell? ⟨w2.heap.size, 0, none⟩ = some (.int .i64 size) := by rw [hw3]; simp
          have e1 : w3.cell? ⟨w2.heap.size, 1, none⟩ = some (.slice (some ⟨D, 0, none⟩) n n) := by rw [hw3]; simp
          have e2 : w3.cell? ⟨w2.heap.size, 2, none⟩ = some (.int .i64 sent) := by rw [hw3]; simp
          have e3 : w3.cell? ⟨w2.heap.size, 3, none⟩ = some (.int .i64 queued) := by rw [hw3]; simp
          have b13 : Below w1.heap.size w1 w3 := b2.trans (hB3.mono (by omega))
          have hV3 : w3.rowIs D 24 n V := hV1.of_block (b13.block D hD1)
          have hP3 : ∀ i, i < n → PktIn (· ≠ D) w3 (V i) (qs.getD i []) := fun i hi => (hP1 i hi).move (fun b hb => by omega) (keeps b13)
          have hqs : queued + sent = (T : Int) := by have := G5.out; omega
          have HQ3 : Hid (OwnQ w3 w1.heap.size qs) := q2.below hB3
          have HBel : Hid (Below w.heap.size w w3) := b1.trans (b13.mono (by omega))
          clear hw3 hB3 b13 b2 b1 q2 hV1 hP1
          go_wp2_with fail
          refine (keep_any w2.heap.size D n n T sent queued qs V w3 HO.out (by omega) (by omega) (by omega) hqs e1 e2 e3 hl (by omega) hV3 hP3 (by omega) hzz).mono ?_
          rintro e w4 ⟨rfl, kq, gr⟩
          clear hqs hzz hP3 hV3
          have hgs := gr.size
          have d0 := gr.cell e0 (by simp; omega)
          have d1 := gr.cell e1 (by simp; omega)
          have d2 := gr.cell e2 (by simp; omega)
          have d3 := gr.cell e3 (by simp; omega)
          have HBel4 : Hid (Below w.heap.size w w4) := HBel.out.grown gr (by omega) (fun j hj => by cases hj; omega)
          have HQ4 : Hid (Pkts w4 w1.heap.size 0 qs) := by
            obtain ⟨V2, g1, g2⟩ := HQ3.out
            refine OwnQ.pkts ⟨V2, g1.of_block (gr.block _ g1.lt (by simp; omega)), fun i hi => ?_⟩
            rcases g2 i hi with h | ⟨g, g3, g4, g5⟩
            · exact Or.inl h
            · exact Or.inr ⟨g, g3, g4, g5.of_block (gr.block g g5.lt (by simp; omega))⟩
          have HK4 : Hid (KeptQ w4 D w3.heap.size qs) := kq
          clear e0 e1 e2 e3 HQ3 HBel kq gr
          go_wp2_with fail
          refine (get_queue w2.heap.size (some ⟨D, 0, none⟩) n n _ d1).mono ?_
          rintro e w5 ⟨rfl, h5⟩
          obtain rfl := h5.symm
          clear h5
          go_wp2_with fail
          go_loopw [16] (fun i wr => ∃ m : Nat, m ≤ n ∧ i = .int .i64 m ∧ Below w4.heap.size w4 wr) (fun i _ => n - (intOf i).toNat)
          case atStart => exact ⟨0, Nat.zero_le _, rfl, Below.refl _ _⟩
          case round =>
            rename World => w5
            obtain ⟨m, hm, rfl, hB⟩ := hrel
            by_cases hmn : m < n
            · obtain ⟨V', hV', hK⟩ := HK4.out
              obtain ⟨a, hv, ha, hsrc⟩ := hK m (by omega)
              have hcx : w5.cell? ⟨D, m, none⟩ = some (V' m) := keeps hB _ _ (hV'.cell (by omega))
              rw [hv] at hcx
              have hsrc5 := src_cells (w := w5) (a := a) (M := w3.heap.size) (bs := qs.getD m []) (fun h0 => by
                obtain ⟨o, h1, h2⟩ := hsrc h0
                exact ⟨o, h1, fun j hj => keeps hB _ _ (h2 j hj)⟩)
              have HSr : Hid (∀ o, ∀ b, a = some b → ∀ j u, ((qs.getD m []).map (Value.int .u8))[j]? = some u → (w5.alloc o).cell? (b.add j) = some u) := fun o b hb j u hu => keeps ((Below.refl _ w5).alloc (Nat.le_refl _) o) _ _ (hsrc5 b hb j u hu)
              have hlb := len_le_octs qs m (by omega)
              have hlo : Hid (((qs.getD m []).map (Value.int .u8)).length = (qs.getD m []).length * 1) := by show _ = _; simp
              have hnone : a = none → (qs.getD m []).length = 0 ∧ (qs.getD m []).length = 0 := fun h => ⟨ha h, ha h⟩
              clear hv hsrc hsrc5 ha hK hV'
              obtain ⟨l, hlen⟩ : ∃ l, (qs.getD m []).length = l := ⟨_, rfl⟩
              have HL : Hid ((qs.getD m []).length = l) := hlen
              have hcx' : w5.cell? ⟨D, m, none⟩ = some (.slice a l l) := by rw [← hlen]; exact hcx
              rw [hlen] at hlb hnone
              have hlo' : Hid (((qs.getD m []).map (Value.int .u8)).length = l * 1) := by rw [← hlen]; exact hlo
              have hfull : l < l + 1 := by omega
              have hbb : (l + 1) * 1 ≤ 140737488355328 := by omega
              have hmm : l + 1 ≤ maxLen := by unfold maxLen; omega
              clear hlen hcx hlo
              go_wp2_with (at_builtin; refine wpList_append_grows _ rfl _ _ 24 rfl 5 i0 (.int .u8 0) 1 1 Try.underlying24 hi hz0 hz1 hz2 rfl (by decide) a l l ((qs.getD m []).map (Value.int .u8)) rfl hnone hlo'.out (HSr.out _) ⟨w5.heap.size, 0, none⟩ 1 1 [.int .u8 165] rfl rfl (cell_one_new _ _ _) (one_u8 165) hfull hmm hbb ?_; intro v' w6 hown hgr; obtain ⟨g, cap, hv', hlast⟩ := grown_shape HL.out hown; have hB6 : Below w4.heap.size w4 w6 := after_grown hB hgr; have hcy : w6.cell? ⟨D, m, none⟩ = some (.slice a l l) := cell_grown hcx' hgr; clear hown hgr HSr hnone hB hcx' hlo'; rw [hv']; clear hv')
              go_roundw
              case rel => exact ⟨m + 1, by omega, by go_num, hB6⟩
              case measure => simp [intOf]; omega
            · have k1 : Pkts w5 D 0 qs := HK4.out.pkts.kept (keeps hB)
              have k2 : Pkts w5 w1.heap.size 0 qs := HQ4.out.kept (keeps hB)
              have k3 : Below w.heap.size w w5 := HBel4.out.trans (hB.mono (by omega))
              have f0 := keeps hB _ _ d0
              have f2 := keeps hB _ _ d2
              have f3 := keeps hB _ _ d3
              clear hB d0 d1 d2 d3
              go_wp2_with fail
              refine (sames_some D 0 w1.heap.size 0 n n n qs _ hl (by omega) hOc k1 k2).mono ?_
              rintro e w8 ⟨rfl, q, rfl⟩
              clear k1 k2
              go_wp2
              go_ret
              exact ⟨rfl, ⟨k3.os, k3.tape, k3.output, k3.size, k3.block⟩⟩
end Go.Proofs.Qxb6630770a
