/-
  A slice of events that came in, opened.
-/
import Derived.Test.Qxb6630848aJoin
import Derived.Deep.SlicePairs
import Derived.WideKeyElems2
import Derived.ProofKit
import Derived.OpenShut
namespace Go.Proofs.Qxb6630848a
open Go.ChangeShapes Go.WideShapes Go.RowKit Go.Deep

theorem cells37 : Try.prog.cellsOf 37 = 4 := by kernel_rfl
theorem cells9 : Try.prog.cellsOf 9 = 1 := by kernel_rfl
theorem cells27 : Try.prog.cellsOf 27 = 1 := by kernel_rfl

instance : Inhabited Ev := ⟨ev0⟩

section
variable {H : Type} {enc : TypeId × Value → H} {W : World} {base : Nat} {spare : Nat → Bool} {held : Bool}

/-- One event, of its four cells. -/
theorem ev_of {n : Nat} {cs : List Value} {x : DataW H × List MemPlace} (h : DataW.trod enc Try.prog W base spare held n 37 cs = some x) :
    ∃ e : Ev, cs = e.cells ∧ (e.id.size ≤ maxLen ∧ e.tm.size ≤ maxLen ∧ e.raw.size ≤ maxLen) ∧ ∃ L, MapIs W e.mp L := by
  obtain ⟨xs, k, hk, hxy, hlen, hxl, hf⟩ := DataW.trod_struct Try.underlying37 h
  rw [cells37] at hlen
  match xs, hxl, cs, hlen with
  | [y0, y1, y2, y3], _, [v0, v1, v2, v3], _ =>
    have g0 := hf 0 _ rfl
    have g1 := hf 1 _ rfl
    have g2 := hf 2 _ rfl
    have g3 := hf 3 _ rfl
    simp [cells9, cells27] at g0 g1 g2 g3
    obtain ⟨s0, e0, _, z0⟩ := DataW.trod_string Try.underlying9 g0
    obtain ⟨s1, e1, _, z1⟩ := DataW.trod_string Try.underlying9 g1
    obtain ⟨s2, e2, _, z2⟩ := DataW.trod_string Try.underlying9 g2
    simp at e0 e1 e2
    subst e0 e1 e2
    rcases WideElems.open_map Try.underlying27 g3 with ⟨e3, _⟩ | ⟨b, es, clock, _, _, e3, hb, _⟩
    · simp at e3
      subst e3
      exact ⟨⟨s0, s1, s2, none⟩, rfl, ⟨z0, z1, z2⟩, 0, Or.inl ⟨rfl, rfl⟩⟩
    · simp at e3
      subst e3
      exact ⟨⟨s0, s1, s2, some b⟩, rfl, ⟨z0, z1, z2⟩, es.size, Or.inr ⟨b, es, clock, rfl, hb, rfl⟩⟩

/-- A list of events that came in. -/
theorem evs_of {a : Option Addr} {len cap fuel : Nat} {x : DataW H × List MemPlace} (h : DataW.trod enc Try.prog W base spare held fuel 22 [.slice a len cap] = some x) :
    ∃ es, EvS W (.slice a len cap) es ∧ SizesOk es ∧ MapsOk W es ∧ es.length ≤ maxLen := by
  rcases open_slice Try.underlying22 h with ⟨hcs, _⟩ | ⟨a', len', cap', m, n, D, Pl, hcs, _, hl, hm, hmm, _, hx⟩
  · simp at hcs
    obtain ⟨rfl, rfl, rfl⟩ := hcs
    exact ⟨[], EvS.nil W, (fun e he => by cases he), (fun e he => by cases he), Nat.zero_le _⟩
  · simp at hcs
    obtain ⟨rfl, rfl, rfl⟩ := hcs
    have hlm : len ≤ m := by rw [hmm]; split <;> omega
    have each : ∀ i, i < len → ∃ e : Ev, (∀ j, j < 4 → W.cell? (a'.add (i * 4 + j)) = e.cells[j]?) ∧ (e.id.size ≤ maxLen ∧ e.tm.size ≤ maxLen ∧ e.raw.size ≤ maxLen) ∧ ∃ L, MapIs W e.mp L := by
      intro i hi
      obtain ⟨cs', h1, h2⟩ := hx i (by omega)
      rw [cells37] at h1
      obtain ⟨_, _, hcell⟩ := World.cells?_some h1
      obtain ⟨e, rfl, h3, h4⟩ := ev_of h2
      refine ⟨e, fun j hj => ?_, h3, h4⟩
      rw [← add_add]
      exact hcell j hj
    obtain ⟨q, hq⟩ := choose_lt each
    have hget : ∀ i, i < len → ((List.range len).map q).getD i ev0 = q i := fun i hi => by simp [hi]
    have hlen : ((List.range len).map q).length = len := by simp
    refine ⟨(List.range len).map q, ⟨some a', cap, by rw [hlen], (fun e => by cases e), by rw [hlen]; exact hl, fun h0 => ?_⟩, ?_, ?_, by rw [hlen]; omega⟩
    · rw [hlen] at h0 ⊢
      obtain ⟨b, o, sp⟩ := a'
      have hsp : sp = none := by
        have h1 := (hq 0 h0).1 0 (by omega)
        exact World.cell?_spot (a := Addr.add ⟨b, o, sp⟩ (0 * 4 + 0)) h1
      subst hsp
      refine ⟨b, o, rfl, fun i hi j u hu => ?_⟩
      rw [hget i hi] at hu
      have h1 := (hq i hi).1 j (cells_lt hu)
      rw [Addr.add_lit] at h1
      rw [Nat.add_assoc, h1]
      exact hu
    · intro e he
      simp at he
      obtain ⟨i, hi, rfl⟩ := he
      exact (hq i hi).2.1
    · intro e he
      simp at he
      obtain ⟨i, hi, rfl⟩ := he
      exact (hq i hi).2.2
end
end Go.Proofs.Qxb6630848a
