/-
  A set kept as a map to bools: the look-up without 'ok'; the plain list of first lines.
-/
import Derived.Test.Qxb6630848aHas
import Derived.Maps.OwnOps
import Derived.Maps.Views
import Derived.StringKeys
namespace Go.Proofs.Qxb6630848a
open Go.RowKit Go.Maps Go.WideMaps

theorem atKey_fold (u z : DataW Unit) (k : Lit) (hk : WideAt.IsKeyLit k) (acc : List Lit) : ∀ m : DataW Unit, IsMap m →
    (acc.foldl (fun m x => m.put x u) m).atKey k z = if acc.any (fun x => x.sameKey k) then u else m.atKey k z := by
  induction acc with
  | nil => intro m _; simp
  | cons x r ih =>
    intro m hm
    rw [List.foldl_cons, ih _ (hm.put x u), List.any_cons]
    by_cases e : x = k
    · subst e
      rw [atKey_put_same hm hk, WideAt.sameKey_self hk]
      simp
    · rw [atKey_put_other (fun h => e h.symm), sameKey_ne e]
      simp

theorem atKey_setOf (u z : DataW Unit) (k : Lit) (hk : WideAt.IsKeyLit k) (acc : List Lit) : (setOf u acc).atKey k z = if acc.any (fun x => x.sameKey k) then u else z :=
  atKey_fold u z k hk acc _ isMap_empty

theorem plainElem_bool_inv {P : Program} {e : TypeId} (he : P.underlying e = some .bool) {v : Value} {x : Bool} {ps : List MemPlace} (h : plainElem (H := Unit) P e v = some (.lit (.bool x), ps)) : v = .bool x := by
  unfold plainElem at h
  rw [he] at h
  cases v <;> simp at h
  rw [h.1]

/-- 'm[k]' (without 'ok') in a set kept as a map to bools. -/
theorem wpList_lookup_set {P : Program} (w : World) {ops : Array Oper} {rest : List Oper} {o : Oper} {a : Act} {Q : Exit → Act → World → Prop}
    (hg : o.guard = none) (m x : Operand) (t : TypeId) (hop : o.op = Op.lookup t m x false)
    (k e : TypeId) (K : Keyed P k) (ht : P.underlying t = some (.map k e)) (he : P.underlying e = some .bool) (hz : (zeroValue e).run P w = .ok (.bool false) w) (b n : Nat) (acc : List Lit)
    (hm : a.eval m = .map (some b)) (hown : w.ownsMap P k (plainElem (H := Unit) P e) b n (setOf (.lit (.bool true)) acc)) (key : Value) (kl : Lit) (hx : a.eval x = key) (hkey : keyOf P k key = some kl) (hkl : WideAt.IsKeyLit kl)
    (r : Bool) (hr : acc.any (fun x => x.sameKey kl) = r)
    (hK : wpList P ops Q rest (a.put o.dst (.bool r)) w) :
    wpList P ops Q (o :: rest) a w := by
  refine wpList_plain hg fun K' hK' => ?_
  obtain ⟨v, ps, hrun, hv⟩ := hown.lookup K ht hz (plainElem_bool he false) hkey
  rw [atKey_setOf _ _ _ hkl, hr] at hv
  have hv' : plainElem (H := Unit) P e v = some (.lit (.bool r), ps) := by rw [hv]; cases r <;> rfl
  have hvv := plainElem_bool_inv he hv'
  subst hvv
  unfold Oper.wp
  simp [execOp, hop, hm, hx, hrun, Result.andThen]
  exact hK' _ _ hK

/-! ### First lines -/
def hasId (es : List Ev) (id : ByteArray) : Bool := es.any (fun e => e.id.toList == id.toList)
def step (acc : List Ev) (e : Ev) : List Ev := if hasId acc e.id then acc else acc ++ [e]
/-- Each event once, at its id's first line. -/
def fst (es : List Ev) : List Ev := es.foldl step []
/-- The key of an event. -/
def keyL (e : Ev) : Lit := .string e.id.data.toList

theorem fst_snoc (es : List Ev) (k : Nat) (h : k < es.length) : fst (es.take (k + 1)) = step (fst (es.take k)) (es.getD k ev0) := by
  unfold fst
  rw [List.take_succ_eq_append_getElem h, List.foldl_append]
  simp [h]
theorem any_key (acc : List Ev) (e : Ev) : (acc.map keyL).any (fun x => x.sameKey (keyL e)) = hasId acc e.id := by
  unfold hasId
  rw [List.any_map]
  congr 1
  funext f
  simp [keyL, Lit.sameKey, ByteArray.toList_eq]
theorem step_len (acc : List Ev) (e : Ev) : (step acc e).length ≤ acc.length + 1 := by unfold step; split <;> simp
theorem fst_len (es : List Ev) (k : Nat) (h : k ≤ es.length) : (fst (es.take k)).length ≤ k := by
  induction k with
  | zero => simp [fst]
  | succ j ih =>
    rw [fst_snoc es j (by omega)]
    have := step_len (fst (es.take j)) (es.getD j ev0)
    have := ih (by omega)
    omega
end Go.Proofs.Qxb6630848a
