/-
  Slices of events as sources of an append.
-/
import Derived.Test.Qxb6630848aFirsts
namespace Go.Proofs.Qxb6630848a
open Go.RowKit

theorem EvS.as {w : World} {v : Value} {es : List Ev} {n : Nat} (h : EvS w v es) (hn : es.length = n) : ∃ a c, v = .slice a n c := by
  obtain ⟨a, c, h1, _⟩ := h
  exact ⟨a, c, by rw [h1, hn]⟩
theorem EvS.len {w : World} {a : Option Addr} {n c : Nat} {es : List Ev} (h : EvS w (.slice a n c) es) : n = es.length := by
  obtain ⟨a', c', h1, _⟩ := h
  injection h1
theorem EvS.isNil {w : World} {a : Option Addr} {n c : Nat} {es : List Ev} (h : EvS w (.slice a n c) es) (ha : a = none) : n = 0 ∧ c = 0 := by
  obtain ⟨a', c', h1, h2, _⟩ := h
  injection h1 with e1 e2 e3
  subst e1 e2 e3
  exact h2 ha
theorem EvS.src {w : World} {a : Option Addr} {n c : Nat} {es : List Ev} (h : EvS w (.slice a n c) es) : ∀ ad, a = some ad → ∀ j u, (flatC es)[j]? = some u → w.cell? (ad.add j) = some u := by
  intro ad had j u hu
  obtain ⟨a', c', h1, _, _, h4⟩ := h
  injection h1 with e1 e2 e3
  subst e1 e2 e3
  have hj : j < es.length * 4 := by rw [← flatC_len]; exact (List.getElem?_eq_some_iff.1 hu).1
  obtain ⟨b, o, hb, hc⟩ := h4 (by omega)
  rw [had] at hb
  obtain rfl := Option.some.inj hb
  have e : j / 4 * 4 + j % 4 = j := by omega
  rw [Addr.add_lit, ← e, ← Nat.add_assoc]
  refine hc (j / 4) (by omega) (j % 4) u ?_
  rw [← flatC_at es (j / 4) (j % 4) (by omega) (by omega), e]
  exact hu
theorem EvS.rows {w : World} {a : Option Addr} {n c : Nat} {es : List Ev} (h : EvS w (.slice a n c) es) (h0 : 0 < n) : ∃ b o, a = some ⟨b, o, none⟩ ∧ ∀ i, i < n → w.rangeAt b (o + i * 4) (es.getD i ev0).cells := by
  obtain ⟨a', c', h1, _, _, h4⟩ := h
  injection h1 with e1 e2 e3
  subst e1 e2 e3
  exact h4 h0
theorem flat_one (es : List Ev) : ∀ u ∈ flatC es, u.oneCell' = true := by
  intro u hu
  unfold flatC at hu
  rw [List.mem_flatMap] at hu
  obtain ⟨e, _, he⟩ := hu
  obtain ⟨i, t, r, m⟩ := e
  exact four_one i t r m u he
theorem flat_append (a b : List Ev) : flatC (a ++ b) = flatC a ++ flatC b := by simp [flatC]
theorem flat_len {es : List Ev} {n : Nat} (h : es.length = n) : (flatC es).length = n * 4 := by rw [flatC_len, h]
end Go.Proofs.Qxb6630848a
