/-
  A queue that came in, opened.
-/
import Derived.Test.Qxb6630770aBase
import Derived.ProofKit
import Derived.OpenShut
import Derived.Deep.Matrix
namespace Go.Proofs.Qxb6630770a
open Go.ChangeShapes Go.WideShapes Go.RowKit Go.Deep

/-- What the walks are told of the queue: it holds no packet; or its address is known and its packets lie there. -/
def IsQueue (w : World) (a : Option Addr) (n : Nat) : Prop :=
  n = 0 ∨ ∃ b off qs, a = some ⟨b, off, none⟩ ∧ qs.length = n ∧ n ≤ 9223372036854775807 ∧ Pkts w b off qs ∧ ∀ i, i < n → (qs.getD i []).length ≤ 9223372036854775807

theorem pkt_of {w : World} {A : Option Addr} {L C : Nat} {Z : List Int} (hLC : L ≤ C) (hZ : Z.length = C) (hnone : A = none → C = 0)
    (hc : ∀ a', A = some a' → ∀ c, c < C → w.cell? (a'.add c) = some (.int .u8 (Z.getD c 0))) : Pkt w (.slice A L C) (Z.take L) := by
  have hlen : (Z.take L).length = L := by simp; omega
  refine ⟨A, C, by rw [hlen], fun h => ?_, by omega, fun h0 => ?_⟩
  · have := hnone h; omega
  · rw [hlen] at h0 ⊢
    cases hA : A with
    | none => have := hnone hA; omega
    | some x =>
      obtain ⟨b, o, sp⟩ := x
      have hsp : sp = none := by simpa [Addr.add] using World.cell?_spot (hc _ hA 0 (by omega))
      subst hsp
      refine ⟨b, o, rfl, fun j hj => ?_⟩
      have := hc _ hA j (by omega)
      rw [Addr.add_lit] at this
      rw [this]
      simp [hj]

theorem isQueue_of {w : World} {a : Addr} {len cap : Nat} {A : Nat → Option Addr} {L C : Nat → Nat} {Z : Nat → List Int} (hl : len ≤ cap) (hm : cap ≤ maxLen)
    (hx : ∀ r, r < cap → w.cell? (a.add r) = some (.slice (A r) (L r) (C r)) ∧ L r ≤ C r ∧ C r ≤ maxLen ∧ (Z r).length = C r ∧ (∀ n ∈ Z r, (Lit.int .u8 n).wf = true) ∧ (A r = none → C r = 0) ∧
        ∀ a', A r = some a' → 0 ≤ a'.block ∧ ∀ c, c < C r → w.cell? (a'.add c) = some (.int .u8 ((Z r).getD c 0))) :
    IsQueue w (some a) len := by
  unfold maxLen at hm
  by_cases h0 : len = 0
  · exact Or.inl h0
  obtain ⟨b, off, sp⟩ := a
  have hsp : sp = none := by simpa [Addr.add] using World.cell?_spot (hx 0 (by omega)).1
  subst hsp
  have hget : ∀ i, i < len → ((List.range len).map fun r => (Z r).take (L r)).getD i [] = (Z i).take (L i) := fun i hi => by simp [hi]
  refine Or.inr ⟨b, off, (List.range len).map fun r => (Z r).take (L r), rfl, by simp, by omega, fun i hi => ?_, fun i hi => ?_⟩
  · have hi' : i < len := by simpa using hi
    obtain ⟨h1, h2, _, h4, _, h6, h7⟩ := hx i (by omega)
    rw [Addr.add_lit] at h1
    refine ⟨_, h1, ?_⟩
    rw [hget i hi']
    exact pkt_of h2 h4 h6 (fun a' ha => (h7 a' ha).2)
  · rw [hget i hi]
    obtain ⟨_, h2, h3, h4, _⟩ := hx i (by omega)
    unfold maxLen at h3
    simp; omega
end Go.Proofs.Qxb6630770a
