/-
  (*Encoder).Keep, ZZnewEncoder and the getters.
-/
import Derived.Test.Qxb6630770aBase
import Derived.Deep.QuietTactic
import Derived.BigQuiet
import Derived.BigRegion
namespace Go.Proofs.Qxb6630770a
open Go.RowKit

/-- As 'Pkt', and the bytes lie in a block of S. -/
def PktIn (S : Nat → Prop) (w : World) (v : Value) (bs : List Int) : Prop :=
  ∃ a c, v = .slice a bs.length c ∧ (a = none → bs.length = 0 ∧ c = 0) ∧ bs.length ≤ c ∧
    (0 < bs.length → ∃ b o, a = some ⟨b, o, none⟩ ∧ S b ∧ ∀ j, j < bs.length → w.cell? ⟨b, o + j, none⟩ = some (.int .u8 (bs.getD j 0)))

/-- A kept packet: it lies in block M; its room ends with its last byte. -/
def Kept (w : World) (M : Nat) (v : Value) (bs : List Int) : Prop :=
  ∃ a, v = .slice a bs.length bs.length ∧ (a = none → bs.length = 0) ∧
    (0 < bs.length → ∃ o, a = some ⟨M, o, none⟩ ∧ ∀ j, j < bs.length → w.cell? ⟨M, o + j, none⟩ = some (.int .u8 (bs.getD j 0)))

/-- A kept packet's shape. -/
def KShape (M : Nat) (v : Value) (s l : Nat) : Prop := ∃ a, v = .slice a l l ∧ (a = none → l = 0) ∧ (0 < l → a = some ⟨M, s, none⟩)

/-- All bytes in a row. -/
def flat (qs : List (List Int)) : List Int := qs.flatten
theorem flat_len (qs : List (List Int)) : (flat qs).length = octs qs := by simp [flat, octs, List.length_flatten]
theorem flat_snoc (qs : List (List Int)) (k : Nat) (h : k < qs.length) : flat (qs.take (k + 1)) = flat (qs.take k) ++ qs.getD k [] := by
  unfold flat
  rw [List.take_succ_eq_append_getElem h, List.flatten_append]
  simp [h]
theorem flat_split (qs : List (List Int)) (k : Nat) (h : k < qs.length) : flat qs = flat (qs.take k) ++ (qs.getD k [] ++ flat (qs.drop (k + 1))) := by
  rw [← List.append_assoc, ← flat_snoc qs k h]
  unfold flat
  rw [← List.flatten_append, List.take_append_drop]
theorem flat_at (qs : List (List Int)) (k j : Nat) (h : k < qs.length) (hj : j < (qs.getD k []).length) : (flat qs)[octs (qs.take k) + j]? = some ((qs.getD k []).getD j 0) := by
  rw [flat_split qs k h, List.getElem?_append_right (by rw [flat_len]; omega), flat_len, List.getElem?_append_left (by omega)]
  rw [Nat.add_sub_cancel_left]
  generalize qs.getD k [] = bs at *
  simp [hj]

/-- What Keep's loop has done after k rounds. -/
structure Mid (w wr : World) (O M T n k : Nat) (V : Nat → Value) (qs : List (List Int)) : Prop where
  own : wr.ownsRow M 5 1 (.slice (some ⟨M, 0, none⟩) (octs (qs.take k)) T) (octs (qs.take k)) ((flat (qs.take k)).map (Value.int .u8))
  row : ∃ V', wr.rowIs O 24 n V' ∧ (∀ i, i < k → KShape M (V' i) (octs (qs.take i)) (qs.getD i []).length) ∧ ∀ i, k ≤ i → V' i = V i
  grown : w.grownBy wr (some O)

theorem Mid.step {w wr w2 : World} {O M T n k : Nat} {V V' : Nat → Value} {qs : List (List Int)} (hk : k < qs.length) (hOM : O < M) (hMw : M = w.heap.size)
    (hrow : wr.rowIs O 24 n V') (hsh : ∀ i, i < k → KShape M (V' i) (octs (qs.take i)) (qs.getD i []).length) (hrest : ∀ i, k ≤ i → V' i = V i) (hgr : w.grownBy wr (some O))
    (hown2 : w2.ownsRow M 5 1 (.slice (some ⟨M, 0, none⟩) (octs (qs.take k) + (qs.getD k []).length) T) (octs (qs.take k) + (qs.getD k []).length) ((flat (qs.take k)).map (Value.int .u8) ++ (qs.getD k []).map (Value.int .u8)))
    (hgr2 : wr.grownBy w2 (some M)) (A : Option Addr) (hA0 : A = none → (qs.getD k []).length = 0) (hA : 0 < (qs.getD k []).length → A = some ⟨M, octs (qs.take k), none⟩) :
    Mid w (w2.setCell ⟨O, k, none⟩ (.slice A (qs.getD k []).length (qs.getD k []).length)).drew O M T n (k + 1) V qs := by
  have hrow2 : w2.rowIs O 24 n V' := hrow.of_block (hgr2.block O hrow.lt (by simp; omega))
  refine ⟨?_, ⟨_, (hrow2.set k _).drew, fun i hi => ?_, fun i hi => ?_⟩, ?_⟩
  · rw [octs_snoc qs k hk, flat_snoc qs k hk, List.map_append]
    exact (ownsRow_setCell_below hown2 (a := ⟨O, k, none⟩) hOM _).drew
  · by_cases e : i = k
    · subst e
      rw [if_pos rfl]
      exact ⟨A, rfl, hA0, hA⟩
    · rw [if_neg e]; exact hsh i (by omega)
  · rw [if_neg (by omega)]; exact hrest i (by omega)
  · have hs := hgr.size
    refine ⟨hgr2.os.trans hgr.os, hgr2.tape.trans hgr.tape, hgr2.output.trans hgr.output, ?_, fun j hj hne => ?_⟩
    · have := hgr2.size; simp; omega
    · have hne' : j ≠ O := fun e => hne (by simp [e])
      show (w2.setCell ⟨O, k, none⟩ _).heap[j]? = _
      rw [Below.heap_setCell _ _ _ _ (by simpa using hne'), hgr2.block j (by omega) (by simp; omega), hgr.block j hj hne]

theorem Mid.done {w wr : World} {O M T n k : Nat} {V : Nat → Value} {qs : List (List Int)} (h : Mid w wr O M T n k V qs) (hk : qs.length ≤ k) (hn : qs.length = n) :
    ∃ V', wr.rowIs O 24 n V' ∧ ∀ i, i < n → Kept wr M (V' i) (qs.getD i []) := by
  obtain ⟨V', hrow, hsh, _⟩ := h.row
  refine ⟨V', hrow, fun i hi => ?_⟩
  obtain ⟨a, h1, h2, h3⟩ := hsh i (by omega)
  refine ⟨a, h1, h2, fun h0 => ⟨_, h3 h0, fun j hj => ?_⟩⟩
  have hown := h.own
  rw [List.take_of_length_le hk] at hown
  have hlt : octs (qs.take i) + j < octs qs := by
    have h4 := octs_snoc qs i (by omega)
    have h5 := octs_le qs (i + 1)
    omega
  rw [hown.cellAt _ (by omega), List.getElem?_map, flat_at qs i j (by omega) hj]
  rfl

set_option maxHeartbeats 400000 in
theorem keep_zero (pe : Nat) (w : World) (c2 : w.cell? ⟨pe, 2, none⟩ = some (.int .i64 0)) (c3 : w.cell? ⟨pe, 3, none⟩ = some (.int .i64 0)) :
    Calls Try.prog 8 #[.pointer (some ⟨pe, 0, none⟩)] w fun e w' => e = .returned (.tuple #[]) ∧ ∃ q, w' = w.drewN q := by
  go_enter Try.func8, Try.ntmps8
  go_wp2
  go_quiet (fail)
  go_wp2
  first | go_end0 | refine bodyPost_ret (results_none rfl _ _ _) rfl ?_
  exact ⟨rfl, _, rfl⟩

set_option maxHeartbeats 1000000 in
theorem keep_some (pe O n c T : Nat) (sent queued : Int) (qs : List (List Int)) (V : Nat → Value) (w : World) (h0 : 0 < T) (hT : octs qs = T) (hm : T ≤ 1048576) (_hs : 0 ≤ sent) (_hqd : 0 ≤ queued) (hsq : queued + sent = (T : Int))
    (c1 : w.cell? ⟨pe, 1, none⟩ = some (.slice (some ⟨O, 0, none⟩) n c)) (c2 : w.cell? ⟨pe, 2, none⟩ = some (.int .i64 sent)) (c3 : w.cell? ⟨pe, 3, none⟩ = some (.int .i64 queued))
    (hl : qs.length = n) (hn : n ≤ 32768) (hV : w.rowIs O 24 n V) (hP : ∀ i, i < n → PktIn (· ≠ O) w (V i) (qs.getD i [])) (hpe : pe ≠ O) :
    Calls Try.prog 8 #[.pointer (some ⟨pe, 0, none⟩)] w fun e w' => e = .returned (.tuple #[]) ∧
      (∃ V', w'.rowIs O 24 n V' ∧ ∀ i, i < n → Kept w' w.heap.size (V' i) (qs.getD i [])) ∧ w.grownBy w' (some O) := by
  obtain ⟨i0, hi, hz0, hz1, hz2⟩ := info_parts info5
  have hne : ((T : Int) == 0) = false := by simp; omega
  have HV : Hid (w.rowIs O 24 n V) := hV
  have HP : Hid (∀ i, i < n → PktIn (· ≠ O) w (V i) (qs.getD i [])) := hP
  have HT : Hid (octs qs = T) := hT
  clear hV hP hT
  go_enter Try.func8, Try.ntmps8
  go_wp2
  go_quiet (fail)
  go_wp2_with (at_make; refine wpList_make_own _ rfl _ _ 24 rfl w.heap.size 5 i0 (.int .u8 0) 1 Try.underlying24 hi hz0 hz1 .i64 .i64 _ T rfl rfl rfl (by rw [hz2]; omega) (by unfold maxLen; omega) (Nat.le_refl _) ?_; intro w1 hown hgrow; have d1 : w1.cell? ⟨pe, 1, none⟩ = some (.slice (some ⟨O, 0, none⟩) n c) := hgrow.cell (by simpa using c1) (by simp))
  have M0 : Mid w w1 O w.heap.size T n 0 V qs := by
    refine ⟨?_, ⟨V, HV.out.of_block (hgrow.block O HV.out.lt (by simp)), fun i hi => absurd hi (Nat.not_lt_zero i), fun _ _ => rfl⟩, ⟨hgrow.os, hgrow.tape, hgrow.output, hgrow.size, fun k hk _ => hgrow.block k hk (by simp)⟩⟩
    simpa [octs, flat] using hown
  have hpes : pe < w.heap.size := World.block_lt_of_cell? _ _ c1
  have hOs : O < w.heap.size := HV.out.lt
  clear hown hgrow c2 c3 d1
  go_loopw [3, 24] (fun m i wr => ∃ k : Nat, k ≤ n ∧ i = .int .i64 k ∧ m = .slice (some ⟨w.heap.size, 0, none⟩) (octs (qs.take k)) T ∧ Mid w wr O w.heap.size T n k V qs) (fun _ i _ => n - (intOf i).toNat)
  case atStart => exact ⟨0, Nat.zero_le _, rfl, rfl, M0⟩
  case round =>
    obtain ⟨k, hk, rfl, rfl, hM⟩ := hrel
    clear M0
    by_cases hlt : k < n
    · obtain ⟨hown, ⟨V', hrow, hsh, hrest⟩, hgr⟩ := hM
      have hcell := hrow.cell hlt
      rw [hrest k (Nat.le_refl _)] at hcell
      obtain ⟨a, c', hv, ha, hlc, hcs⟩ := HP.out k hlt
      rw [hv] at hcell
      have hsn := octs_snoc qs k (by omega)
      have hsT : octs (qs.take (k + 1)) ≤ T := by rw [← HT.out]; exact octs_le qs (k + 1)
      have HF : Hid (flat (qs.take (k + 1)) = flat (qs.take k) ++ qs.getD k []) := flat_snoc qs k (by omega)
      have hsrc : Hid (∀ ad, a = some ad → ∀ j u, ((qs.getD k []).map (Value.int .u8))[j]? = some u → wr.cell? (ad.add j) = some u) := by
        intro ad had j u hu
        have hj : j < (qs.getD k []).length := by have := (List.getElem?_eq_some_iff.1 hu).1; simpa using this
        obtain ⟨b, o, hb, hS, hc⟩ := hcs (by omega)
        rw [hb] at had
        cases had
        rw [Addr.add_lit]
        have h1 := hgr.cell (hc j hj) (by simpa using hS)
        rw [h1]
        generalize qs.getD k [] = bs at *
        simp [hj] at hu
        simp [hj, hu]
      have hc1 : wr.cell? ⟨pe, 1, none⟩ = some (.slice (some ⟨O, 0, none⟩) n c) := hgr.cell c1 (by simpa using hpe)
      have hfz := hrow.frozen k
      have hsT' : octs (qs.take k) + (qs.getD k []).length ≤ T := by omega
      have HM : Hid (∀ w2, w2.ownsRow w.heap.size 5 1 (.slice (some ⟨w.heap.size, 0, none⟩) (octs (qs.take k) + (qs.getD k []).length) T) (octs (qs.take k) + (qs.getD k []).length) ((flat (qs.take k)).map (Value.int .u8) ++ (qs.getD k []).map (Value.int .u8)) →
          wr.grownBy w2 (some w.heap.size) → ∀ A : Option Addr, (A = none → (qs.getD k []).length = 0) → (0 < (qs.getD k []).length → A = some ⟨w.heap.size, octs (qs.take k), none⟩) →
          Mid w (w2.setCell ⟨O, k, none⟩ (.slice A (qs.getD k []).length (qs.getD k []).length)).drew O w.heap.size T n (k + 1) V qs) :=
        fun w2 g1 g2 A g3 g4 => Mid.step (by omega) hOs rfl hrow hsh hrest hgr g1 g2 A g3 g4
      have HN : Hid (octs (qs.take (k + 1)) = octs (qs.take k) + (qs.getD k []).length) := hsn
      clear hcs hv hsn hsT HF hsh hrest
      generalize qs.getD k [] = bs at *
      generalize octs (qs.take k) = s at *
      go_wp2_with (at_builtin; refine wpList_append_fits_any _ rfl _ _ 24 rfl w.heap.size 5 i0 1 Try.underlying24 hi hz1 w.heap.size s T _ rfl hown a bs.length c' (bs.map (Value.int .u8)) rfl (by simp) ha hsrc.out (ints_oneCell _ _) hsT' ?_; intro w2 hown2 hgr2)
      have hd1 : w2.cell? ⟨pe, 1, none⟩ = some (.slice (some ⟨O, 0, none⟩) n c) := hgr2.cell hc1 (by simp; omega)
      have hdk : w2.cell? ⟨O, k, none⟩ = some (.slice a bs.length c') := hgr2.cell hcell (by simp; omega)
      have hfk : w2.frozen? ⟨O, k, none⟩ = false := by rw [World.frozen?_of_block (w := wr) (hgr2.block O hrow.lt (by simp; omega))]; exact hfz
      have hki : (k : Int) < (n : Int) := by omega
      have HM2 : Hid (∀ A : Option Addr, (A = none → bs.length = 0) → (0 < bs.length → A = some ⟨w.heap.size, s, none⟩) → Mid w (w2.setCell ⟨O, k, none⟩ (.slice A bs.length bs.length)).drew O w.heap.size T n (k + 1) V qs) := HM.out w2 hown2 hgr2
      clear hcell hc1 hfz hsrc hown hown2 hgr2 hrow hgr ha
      go_region
      go_wp2
      all_goals
        go_roundw
        case rel => exact ⟨k + 1, by omega, by go_num, by rw [HN.out], HM2.out _ (fun h => by split at h <;> cases h) (fun h => by rw [if_neg (by intro e; rw [e] at h; simp at h)])⟩
        case measure => simp [intOf]; omega
    · have hD := hM.done (by omega) hl
      have hG := hM.grown
      clear hM
      go_wp2
      first | go_end0 | refine bodyPost_ret (results_none rfl _ _ _) rfl ?_
      exact ⟨rfl, hD, hG⟩
end Go.Proofs.Qxb6630770a
