/-
  zzCloneContiguous.
-/
import Derived.Test.Qxb6630770aClone
import Derived.Test.Qxb6630770aKeep
namespace Go.Proofs.Qxb6630770a
open Go.RowKit

/-- What an entry of the contiguous copy looks like. -/
def CShape (F T : Nat) (v : Value) (s l : Nat) : Prop := (v = .slice none 0 0 ∧ l = 0) ∨ ∃ a, v = .slice (some a) l (T - s) ∧ s + l ≤ T ∧ (0 < l → a = ⟨F, s, none⟩)

/-- After k rounds: what is gathered in block F, and the outer row, block D. -/
structure Con (w wr : World) (F D T n k : Nat) (qs : List (List Int)) : Prop where
  own : wr.ownsRow F 5 1 (.slice (some ⟨F, 0, none⟩) (octs (qs.take k)) T) (octs (qs.take k)) ((flat (qs.take k)).map (Value.int .u8))
  row : ∃ V', wr.rowIs D 24 n V' ∧ (∀ i, i < k → CShape F T (V' i) (octs (qs.take i)) (qs.getD i []).length) ∧ ∀ i, k ≤ i → V' i = .slice none 0 0
  bel : Below F w wr

theorem Con.skip {w wr : World} {F D T n k : Nat} {qs : List (List Int)} (h : Con w wr F D T n k qs) (hk : k < qs.length) (h0 : (qs.getD k []).length = 0) : Con w wr F D T n (k + 1) qs := by
  obtain ⟨V', h1, h2, h3⟩ := h.row
  have hn := List.eq_nil_of_length_eq_zero h0
  refine ⟨?_, ⟨V', h1, fun i hi => ?_, fun i hi => h3 i (by omega)⟩, h.bel⟩
  · have := h.own
    rw [octs_snoc qs k hk, flat_snoc qs k hk, hn]
    simpa using this
  · by_cases e : i < k
    · exact h2 i e
    · obtain rfl : i = k := by omega
      exact Or.inl ⟨h3 i (Nat.le_refl _), h0⟩

theorem Con.store {w wo wr : World} {F D T n k : Nat} {qs : List (List Int)} (h : Con w wo F D T n k qs) (hk : k < qs.length) (hg : wo.grownBy wr (some F)) (hF : F = w.heap.size) (hFD : F < D)
    (hown : wr.ownsRow F 5 1 (.slice (some ⟨F, 0, none⟩) (octs (qs.take k) + (qs.getD k []).length) T) (octs (qs.take k) + (qs.getD k []).length) ((flat (qs.take k)).map (Value.int .u8) ++ (qs.getD k []).map (Value.int .u8)))
    (a : Addr) (hT : octs (qs.take k) + (qs.getD k []).length ≤ T) (ha : 0 < (qs.getD k []).length → a = ⟨F, octs (qs.take k), none⟩) :
    Con w (wr.setCell ⟨D, k, none⟩ (.slice (some a) (qs.getD k []).length (T - octs (qs.take k)))) F D T n (k + 1) qs := by
  obtain ⟨V', h1, h2, h3⟩ := h.row
  have h1' : wr.rowIs D 24 n V' := h1.of_block (hg.block D h1.lt (by simp; omega))
  have hs := h.bel.size
  refine ⟨?_, ⟨_, h1'.set k _, fun i hi => ?_, fun i hi => ?_⟩, ?_⟩
  · rw [octs_snoc qs k hk, flat_snoc qs k hk, List.map_append]
    rcases hown with ⟨o1, o2⟩
    refine ⟨o1, ?_⟩
    rcases o2 with o2 | ⟨g, cap, cur, hv, hg', hh, r⟩
    · exact Or.inl o2
    · simp at hv
      obtain ⟨rfl, rfl⟩ := hv
      exact Or.inr ⟨F, _, cur, rfl, hg', by rw [Below.heap_setCell _ _ _ _ (by simp; omega)]; exact hh, r⟩
  · by_cases e : i = k
    · subst e
      rw [if_pos rfl]
      exact Or.inr ⟨a, rfl, hT, ha⟩
    · rw [if_neg e]; exact h2 i (by omega)
  · rw [if_neg (by omega)]; exact h3 i (by omega)
  · exact (h.bel.grown hg (by omega) (fun j hj => by cases hj; exact Nat.le_refl _)).setCell (p := ⟨D, k, none⟩) (by show F ≤ D; omega) _

theorem Con.done {w wr : World} {F D T n k : Nat} {qs : List (List Int)} (h : Con w wr F D T n k qs) (hk : qs.length ≤ k) (hn : qs.length = n) (hT : octs qs = T) :
    ∃ V', wr.rowIs D 24 n V' ∧ (∀ i, i < n → PktIn (· = F) wr (V' i) (qs.getD i [])) ∧ (T = 0 → ∀ i, i < n → ∃ a, V' i = .slice a 0 0) := by
  obtain ⟨V', h1, h2, _⟩ := h.row
  refine ⟨V', h1, fun i hi => ?_, fun h0 i hi => ?_⟩
  · have hown := h.own
    rw [List.take_of_length_le hk] at hown
    rcases h2 i (by omega) with ⟨h, hl⟩ | ⟨a, h, hle, ha⟩
    · exact ⟨none, 0, by rw [hl]; exact h, fun _ => ⟨hl, rfl⟩, by omega, fun h0 => absurd h0 (by omega)⟩
    · refine ⟨some a, _, h, (fun e => by cases e), by omega, fun h0 => ⟨F, octs (qs.take i), by rw [ha h0], rfl, fun j hj => ?_⟩⟩
      rw [hown.cellAt _ (by omega), List.getElem?_map, flat_at qs i j (by omega) hj]
      rfl
  · have hlen : (qs.getD i []).length = 0 := by have := len_le_octs qs i (by omega); omega
    rcases h2 i (by omega) with ⟨h, _⟩ | ⟨a, h, _, _⟩
    · exact ⟨_, h⟩
    · rw [hlen, h0] at h
      exact ⟨_, by simpa using h⟩

theorem Con.start {w w1 : World} {T n : Nat} {qs : List (List Int)} (hown : w1.ownsRow w.heap.size 5 1 (.slice (some ⟨w.heap.size, 0, none⟩) 0 T) 0 []) (hgrow : w.grownBy w1 none) :
    Con w (w1.alloc (.cells (madeCells #[.slice none 0 0] n) 24)) w.heap.size w1.heap.size T n 0 qs := by
  refine ⟨?_, ⟨fun _ => .slice none 0 0, World.rowIs_made w1 _ _ _, fun i hi => absurd hi (Nat.not_lt_zero i), fun _ _ => rfl⟩, ?_⟩
  · have := hown.alloc (.cells (madeCells #[.slice none 0 0] n) 24)
    simpa [octs, flat] using this
  · exact ((Below.refl _ w).grown hgrow (Nat.le_refl _) (fun k hk => by cases hk)).alloc hgrow.size _

/-- The inner loop's state after j rounds. -/
structure Pour (wo wi : World) (F s T j : Nat) (xs : List Value) (bs : List Int) : Prop where
  own : wi.ownsRow F 5 1 (.slice (some ⟨F, 0, none⟩) (s + j) T) (s + j) (xs ++ (bs.take j).map (Value.int .u8))
  grown : wo.grownBy wi (some F)

theorem Pour.step {wo wi w2 : World} {F s T j : Nat} {xs : List Value} {bs : List Int} (h : Pour wo wi F s T j xs bs) (hj : j < bs.length) (o : Obj)
    (hown : w2.ownsRow F 5 1 (.slice (some ⟨F, 0, none⟩) (s + j + 1) T) (s + j + 1) (xs ++ (bs.take j).map (Value.int .u8) ++ [.int .u8 (bs.getD j 0)])) (hg : (wi.alloc o).grownBy w2 (some F)) : Pour wo w2 F s T (j + 1) xs bs := by
  have hs := h.grown.size
  have hs2 := hg.size
  simp at hs2
  refine ⟨?_, ⟨hg.os.trans h.grown.os, hg.tape.trans h.grown.tape, hg.output.trans h.grown.output, by omega, fun k hk hne => ?_⟩⟩
  · rw [List.take_succ_eq_append_getElem hj, List.map_append, ← List.append_assoc]
    have e : [Value.int IntKind.u8 (bs.getD j 0)] = List.map (Value.int IntKind.u8) [bs[j]] := by simp [hj]
    rw [← e]
    exact hown
  · rw [hg.block k (by simp; omega) hne, Below.heap_alloc _ _ _ (by omega), h.grown.block k hk hne]

theorem one_u8 (z : Int) : ∀ u ∈ [Value.int .u8 z], u.oneCell' = true := by intro u hu; simp at hu; subst hu; rfl

set_option maxHeartbeats 1000000 in
theorem contig_some (b off n c T : Nat) (qs : List (List Int)) (w : World) (hn : n ≤ 32768) (hl : qs.length = n) (hT : octs qs = T) (ho : T ≤ 1048576) (hq : Pkts w b off qs) :
    Calls Try.prog 15 #[.slice (some ⟨b, off, none⟩) n c, .int .i64 T] w fun e w' => ∃ D, w.heap.size < D ∧ e = .returned (.slice (some ⟨D, 0, none⟩) n n) ∧
      (∃ V', w'.rowIs D 24 n V' ∧ (∀ i, i < n → PktIn (· = w.heap.size) w' (V' i) (qs.getD i [])) ∧ (T = 0 → ∀ i, i < n → ∃ a, V' i = .slice a 0 0)) ∧ Below w.heap.size w w' := by
  have h22 := q22
  have h24 := q24
  obtain ⟨i0, hi, hz0, hz1, hz2⟩ := info_parts info5
  have hmk := run_make_row' (P := Try.prog) 22 24 (.slice none 0 0) 24 Try.underlying22 info24 rfl .i64 .i64 n (by omega) (by omega)
  have HQ : Hid (Pkts w b off qs) := hq
  have HT : Hid (octs qs = T) := hT
  clear hq hT
  go_enter Try.func15, Try.ntmps15
  go_wp2_with (at_make; refine wpList_make_own _ rfl _ _ 24 rfl w.heap.size 5 i0 (.int .u8 0) 1 Try.underlying24 hi hz0 hz1 .i64 .i64 _ T rfl rfl rfl (by rw [hz2]; omega) (by unfold maxLen; omega) (Nat.le_refl _) ?_; intro w1 hown hgrow)
  have C0 : Con w (w1.alloc (.cells (madeCells #[.slice none 0 0] n) 24)) w.heap.size w1.heap.size T n 0 qs := Con.start hown hgrow
  have hFD : w.heap.size < w1.heap.size := (hown.lt _ rfl).2
  clear hown hgrow
  go_loopw [5, 7] (fun m i wr => ∃ k : Nat, k ≤ n ∧ i = .int .i64 k ∧ m = .slice (some ⟨w.heap.size, 0, none⟩) (octs (qs.take k)) T ∧ Con w wr w.heap.size w1.heap.size T n k qs) (fun _ i _ => n - (intOf i).toNat)
  case atStart => exact ⟨0, Nat.zero_le _, rfl, rfl, C0⟩
  case round =>
    rename World => wo
    obtain ⟨k, hk, rfl, rfl, hC⟩ := hrel
    clear C0
    by_cases hlt : k < n
    · obtain ⟨v, hv0, a, c', rfl, ha, hc', hcell⟩ := HQ.out k (by omega)
      have hv := keeps hC.bel _ _ hv0
      have hbl := hC.bel
      clear hv0
      have hsn : Hid (octs (qs.take (k + 1)) = octs (qs.take k) + (qs.getD k []).length) := octs_snoc qs k (by omega)
      have hsT : octs (qs.take k) + (qs.getD k []).length ≤ T := by rw [← HT.out, ← octs_snoc qs k (by omega)]; exact octs_le qs (k + 1)
      cases a with
      | none =>
        obtain ⟨hl0, rfl⟩ := ha rfl
        have hC' := hC.skip (by omega) hl0
        have HE : Hid (octs (qs.take (k + 1)) = octs (qs.take k)) := by have := hsn.out; show _ = _; omega
        clear hcell ha hC hbl
        go_wp2
        go_roundw
        case rel => exact ⟨k + 1, by omega, by go_num, by rw [HE.out], hC'⟩
        case measure => simp [intOf]; omega
      | some x =>
        have hst : Hid (∀ wr, wo.grownBy wr (some w.heap.size) → wr.ownsRow w.heap.size 5 1 (.slice (some ⟨w.heap.size, 0, none⟩) (octs (qs.take k) + (qs.getD k []).length) T) (octs (qs.take k) + (qs.getD k []).length) ((flat (qs.take k)).map (Value.int .u8) ++ (qs.getD k []).map (Value.int .u8)) →
            ∀ a : Addr, (0 < (qs.getD k []).length → a = ⟨w.heap.size, octs (qs.take k), none⟩) → Con w (wr.setCell ⟨w1.heap.size, k, none⟩ (.slice (some a) (qs.getD k []).length (T - octs (qs.take k)))) w.heap.size w1.heap.size T n (k + 1) qs) :=
          fun wr g1 g2 a g3 => hC.store (by omega) g1 rfl hFD g2 a hsT g3
        have hot : ∃ u, wo.cell? ⟨w1.heap.size, k, none⟩ = some u := by obtain ⟨V, h1, _⟩ := hC.row; exact ⟨_, h1.cell (by omega)⟩
        have hof : wo.frozen? ⟨w1.heap.size, k, none⟩ = false := by obtain ⟨V, h1, _⟩ := hC.row; exact h1.frozen k
        have hsz : w1.heap.size < wo.heap.size := by obtain ⟨V, h1, _⟩ := hC.row; exact h1.lt
        obtain ⟨u, hu⟩ := hot
        have P0 : Pour wo wo w.heap.size (octs (qs.take k)) T 0 ((flat (qs.take k)).map (Value.int .u8)) (qs.getD k []) := ⟨by simpa using hC.own, World.grownBy.refl _ _⟩
        clear ha hC
        generalize qs.getD k [] = bs at *
        generalize octs (qs.take k) = s at *
        generalize (flat (qs.take k)).map (Value.int .u8) = xs at *
        by_cases h0 : 0 < bs.length
        · obtain ⟨b', o', hx, hcl⟩ := hcell h0
          cases hx
          have HCl : Hid (∀ j, j < bs.length → w.cell? ⟨b', o' + j, none⟩ = some (.int .u8 (bs.getD j 0))) := hcl
          have hb' : b' < w.heap.size := World.block_lt_of_cell? _ _ (hcl 0 h0)
          clear hcell hcl
          go_wp2
          go_loopw [5, 10] (fun m i wr => ∃ j : Nat, j ≤ bs.length ∧ i = .int .i64 j ∧ m = .slice (some ⟨w.heap.size, 0, none⟩) (s + j) T ∧ Pour wo wr w.heap.size s T j xs bs) (fun _ i _ => bs.length - (intOf i).toNat)
          case atStart => exact ⟨0, Nat.zero_le _, rfl, rfl, P0⟩
          case round =>
            rename World => wi
            obtain ⟨j, hj, rfl, rfl, hP⟩ := hrel
            clear P0
            by_cases hjl : j < bs.length
            · have hcx : wi.cell? ⟨b', o' + j, none⟩ = some (.int .u8 (bs.getD j 0)) := hP.grown.cell ((hbl.cell (p := ⟨b', o' + j, none⟩) hb').trans (HCl.out j hjl)) (by simp; omega)
              have hown := hP.own
              have hle : s + j + 1 ≤ T := by omega
              have HP : Hid (∀ w2 o, w2.ownsRow w.heap.size 5 1 (.slice (some ⟨w.heap.size, 0, none⟩) (s + j + 1) T) (s + j + 1) (xs ++ (bs.take j).map (Value.int .u8) ++ [.int .u8 (bs.getD j 0)]) → (wi.alloc o).grownBy w2 (some w.heap.size) → Pour wo w2 w.heap.size s T (j + 1) xs bs) :=
                fun w2 o g1 g2 => hP.step hjl o g1 g2
              clear hP
              generalize bs.getD j 0 = z at *
              generalize xs ++ (bs.take j).map (Value.int .u8) = ys at *
              go_wp2_with (at_builtin; refine wpList_append_fits _ rfl _ _ 24 rfl w.heap.size 5 i0 1 Try.underlying24 hi hz1 w.heap.size (s + j) T _ rfl (hown.alloc _) ⟨wi.heap.size, 0, none⟩ 1 1 [.int .u8 z] rfl rfl (cell_one_new _ _ _) (one_u8 z) hle ?_; intro w2 hown2 hgr2)
              have hP2 := HP.out w2 _ hown2 hgr2
              clear hown2 hgr2 hown HP
              go_wp2
              go_roundw
              case rel => exact ⟨j + 1, by omega, by go_num, rfl, hP2⟩
              case measure => simp [intOf]; omega
            · have hjl' : j = bs.length := by omega
              subst hjl'
              have hown := hP.own
              rw [List.take_length] at hown
              have hu' : wi.cell? ⟨w1.heap.size, k, none⟩ = some u := hP.grown.cell hu (by simp; omega)
              have hof' : wi.frozen? ⟨w1.heap.size, k, none⟩ = false := by rw [World.frozen?_of_block (w := wo) (hP.grown.block w1.heap.size hsz (by simp; omega))]; exact hof
              have HS := hst.out wi hP.grown hown
              have HC : Hid (∀ a : Addr, (0 < bs.length → a = ⟨w.heap.size, s, none⟩) → Con w (wi.setCell ⟨w1.heap.size, k, none⟩ (.slice (some a) bs.length (T - s))) w.heap.size w1.heap.size T n (k + 1) qs) := HS
              have hTs : ¬ T = s := by omega
              clear HS hown hP hu hof hst
              go_wp2
              go_roundw
              case rel => exact ⟨k + 1, by omega, by go_num, by rw [hsn.out], HC.out _ (fun _ => rfl)⟩
              case measure => simp [intOf]; omega
        · have hbs : bs.length = 0 := by omega
          have HS := hst.out wo P0.grown (by
            have := P0.own
            rw [List.eq_nil_of_length_eq_zero hbs]
            simpa using this)
          have HC : Hid (∀ a : Addr, (0 < bs.length → a = ⟨w.heap.size, s, none⟩) → Con w (wo.setCell ⟨w1.heap.size, k, none⟩ (.slice (some a) bs.length (T - s))) w.heap.size w1.heap.size T n (k + 1) qs) := HS
          clear HS P0 hst hcell
          go_wp2
          refine wp_loop_rounds 1 ?_
          rw [rounds_succ]
          go_wp2
          go_roundw
          case rel =>
            refine ⟨k + 1, by omega, by go_num, by rw [hsn.out, hbs, Nat.add_zero], ?_⟩
            have H := HC.out
            rw [hbs] at H
            by_cases e : T = s
            · rw [if_pos e]; exact H _ (fun h => absurd h (Nat.lt_irrefl _))
            · rw [if_neg e]; exact H _ (fun h => absurd h (Nat.lt_irrefl _))
          case measure => simp [intOf]; omega
    · have hfin := hC.done (by omega) hl HT.out
      have hB := hC.bel
      clear hC
      go_wp2
      go_ret
      exact ⟨w1.heap.size, hFD, rfl, hfin, hB⟩
end Go.Proofs.Qxb6630770a
