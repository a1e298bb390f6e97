/-
  The plain law: the list of first lines.
-/
import Derived.Test.Qxb6630848aSeen
namespace Go.Proofs.Qxb6630848a

theorem hasId_append (a b : List Ev) (id : ByteArray) : hasId (a ++ b) id = (hasId a id || hasId b id) := by simp [hasId, List.any_append]
theorem hasId_cons (e : Ev) (r : List Ev) (id : ByteArray) : hasId (e :: r) id = ((e.id.toList == id.toList) || hasId r id) := rfl
theorem hasId_congr (a : List Ev) {i j : ByteArray} (h : (i.toList == j.toList) = true) : hasId a i = hasId a j := by
  have h' : i.toList = j.toList := by simpa using h
  simp [hasId, h']
theorem hasId_mem {a : List Ev} {e : Ev} (h : e ∈ a) : hasId a e.id = true := by
  unfold hasId
  rw [List.any_eq_true]
  exact ⟨e, h, by simp⟩
theorem hasB_is (es : List Ev) (k : Nat) (id : ByteArray) : hasB es k id = hasId (es.take k) id := rfl

theorem hasId_step (acc : List Ev) (e : Ev) (id : ByteArray) : hasId (step acc e) id = (hasId acc id || (e.id.toList == id.toList)) := by
  unfold step
  by_cases h : hasId acc e.id = true
  · rw [if_pos h]
    by_cases hi : (e.id.toList == id.toList) = true
    · rw [← hasId_congr acc hi, h]; simp
    · have hi' : (e.id.toList == id.toList) = false := by simpa using hi
      rw [hi', Bool.or_false]
  · rw [if_neg h, hasId_append, hasId_cons]; simp [hasId]

theorem hasId_fold (es : List Ev) : ∀ (acc : List Ev) (id : ByteArray), hasId (es.foldl step acc) id = (hasId acc id || hasId es id) := by
  induction es with
  | nil => intro acc id; simp [hasId]
  | cons e r ih =>
    intro acc id
    rw [List.foldl_cons, ih, hasId_step, hasId_cons, Bool.or_assoc]

theorem hasId_fst (es : List Ev) (id : ByteArray) : hasId (fst es) id = hasId es id := by
  unfold fst
  rw [hasId_fold]; simp [hasId]

theorem fst_nil {es : List Ev} (h : (fst es).length = 0) : es.length = 0 := by
  have h0 := List.eq_nil_of_length_eq_zero h
  cases es with
  | nil => rfl
  | cons e r =>
    have h1 := hasId_fst (e :: r) e.id
    rw [h0, hasId_mem (List.mem_cons_self)] at h1
    simp [hasId] at h1

/-- What a fold leaves has what it began with at its head. -/
theorem fold_prefix (es : List Ev) : ∀ acc : List Ev, ∃ t, es.foldl step acc = acc ++ t := by
  induction es with
  | nil => intro acc; exact ⟨[], by simp⟩
  | cons e r ih =>
    intro acc
    obtain ⟨t, ht⟩ := ih (step acc e)
    rw [List.foldl_cons, ht]
    unfold step
    split
    · exact ⟨t, rfl⟩
    · exact ⟨[e] ++ t, by simp⟩

theorem fst_prefix (es : List Ev) (k : Nat) : ∃ t, fst es = fst (es.take k) ++ t := by
  obtain ⟨t, ht⟩ := fold_prefix (es.drop k) (fst (es.take k))
  refine ⟨t, ?_⟩
  rw [← ht]
  unfold fst
  rw [← List.foldl_append, List.take_append_drop]

/-- A first line's place in the list of first lines. -/
theorem fst_place (es : List Ev) (k : Nat) (h : k < es.length) (hn : hasId (es.take k) (es.getD k ev0).id = false) :
    fst (es.take (k + 1)) = fst (es.take k) ++ [es.getD k ev0] ∧ (fst (es.take k)).length < (fst es).length ∧ (fst es).getD (fst (es.take k)).length ev0 = es.getD k ev0 ∧ (fst es).take (fst (es.take k)).length = fst (es.take k) := by
  have h1 : fst (es.take (k + 1)) = fst (es.take k) ++ [es.getD k ev0] := by
    rw [fst_snoc es k h]
    unfold step
    rw [hasId_fst, if_neg (by rw [hn]; simp)]
  obtain ⟨t, ht⟩ := fst_prefix es (k + 1)
  rw [h1] at ht
  refine ⟨h1, by rw [ht]; simp, ?_, ?_⟩
  · rw [ht]; simp
  · rw [ht]; simp

theorem fst_skip (es : List Ev) (k : Nat) (h : k < es.length) (hn : hasId (es.take k) (es.getD k ev0).id = true) : fst (es.take (k + 1)) = fst (es.take k) := by
  rw [fst_snoc es k h]
  unfold step
  rw [hasId_fst, if_pos hn]

theorem filter_has (acc base : List Ev) (id : ByteArray) (h : hasId acc id = false) : hasId (base.filter (fun e => !hasId acc e.id)) id = hasId base id := by
  induction base with
  | nil => rfl
  | cons e r ih =>
    rw [List.filter_cons]
    by_cases he : (e.id.toList == id.toList) = true
    · have h1 : hasId acc e.id = false := by rw [hasId_congr acc he]; exact h
      rw [h1]
      simp [hasId_cons, he]
    · have he' : (e.id.toList == id.toList) = false := by simpa using he
      rw [hasId_cons, he', Bool.false_or, ← ih]
      split
      · rw [hasId_cons, he', Bool.false_or]
      · rfl

theorem fold_split (es : List Ev) (acc : List Ev) : ∀ base : List Ev, es.foldl step (acc ++ base.filter (fun e => !hasId acc e.id)) = acc ++ (es.foldl step base).filter (fun e => !hasId acc e.id) := by
  induction es with
  | nil => intro base; rfl
  | cons e r ih =>
    intro base
    rw [List.foldl_cons, List.foldl_cons, ← ih (step base e)]
    congr 1
    by_cases h : hasId acc e.id = true
    · have e1 : step (acc ++ base.filter (fun e => !hasId acc e.id)) e = acc ++ base.filter (fun e => !hasId acc e.id) := by
        unfold step; rw [if_pos (by rw [hasId_append, h]; rfl)]
      rw [e1]
      unfold step
      split
      · rfl
      · rw [List.filter_append]; simp [h]
    · have h' : hasId acc e.id = false := by simpa using h
      unfold step
      rw [hasId_append, h', Bool.false_or, filter_has acc base e.id h']
      split
      · rfl
      · rw [List.filter_append, List.append_assoc]; simp [h']

/-- The first lines of two lists behind one another. -/
theorem fst_append (a b : List Ev) : fst (a ++ b) = fst a ++ (fst b).filter (fun e => !hasId a e.id) := by
  have h := fold_split b (fst a) []
  rw [List.filter_nil, List.append_nil] at h
  have h1 : fst (a ++ b) = b.foldl step (fst a) := by unfold fst; rw [List.foldl_append]
  have h2 : fst b = b.foldl step [] := rfl
  rw [h1, h, ← h2]
  congr 1
  exact List.filter_congr (fun e _ => by rw [hasId_fst])

theorem fst_twice (x : List Ev) : fst (x ++ x) = fst x := by
  rw [fst_append, List.filter_eq_nil_iff.2, List.append_nil]
  intro e he
  rw [← hasId_fst, hasId_mem he]
  simp

/-- No two events of the list bear one id. -/
def Apart (l : List Ev) : Prop := ∀ k, k < l.length → hasId (l.take k) (l.getD k ev0).id = false

theorem apart_step {acc : List Ev} (h : Apart acc) (e : Ev) : Apart (step acc e) := by
  unfold step
  split
  · exact h
  · rename_i hn
    intro k hk
    simp at hk
    by_cases hka : k < acc.length
    · have := h k hka
      rw [List.take_append_of_le_length (by omega)]
      simpa [List.getElem?_append_left hka] using this
    · obtain rfl : k = acc.length := by omega
      simp
      simpa using hn

theorem apart_fold (es : List Ev) : ∀ acc : List Ev, Apart acc → Apart (es.foldl step acc) := by
  induction es with
  | nil => intro acc h; exact h
  | cons e r ih => intro acc h; exact ih _ (apart_step h e)

theorem apart_fst (es : List Ev) : Apart (fst es) := apart_fold es [] (fun k hk => absurd hk (Nat.not_lt_zero k))

theorem fst_apart {l : List Ev} (h : Apart l) : fst l = l := by
  have hk : ∀ k, k ≤ l.length → fst (l.take k) = l.take k := by
    intro k
    induction k with
    | zero => intro _; rfl
    | succ j ih =>
      intro hj
      rw [(fst_place l j (by omega) (h j (by omega))).1, ih (by omega), List.take_succ_eq_append_getElem (by omega)]
      simp [show j < l.length by omega]
  have := hk l.length (Nat.le_refl _)
  rwa [List.take_length] at this

theorem fst_fst (es : List Ev) : fst (fst es) = fst es := fst_apart (apart_fst es)

theorem mem_fold (es : List Ev) : ∀ (acc : List Ev) (e : Ev), e ∈ es.foldl step acc → e ∈ acc ∨ e ∈ es := by
  induction es with
  | nil => intro acc e h; exact Or.inl h
  | cons x r ih =>
    intro acc e h
    rcases ih _ e h with h | h
    · unfold step at h
      split at h
      · exact Or.inl h
      · rcases List.mem_append.1 h with h | h
        · exact Or.inl h
        · exact Or.inr (by simp at h; simp [h])
    · exact Or.inr (List.mem_cons_of_mem _ h)
theorem mem_fst {es : List Ev} {e : Ev} (h : e ∈ fst es) : e ∈ es := by
  rcases mem_fold es [] e h with h | h
  · cases h
  · exact h
theorem fst_length (es : List Ev) : (fst es).length ≤ es.length := by
  have := fst_len es es.length (Nat.le_refl _)
  rwa [List.take_length] at this
end Go.Proofs.Qxb6630848a
