/-
  No cell of these rows narrows 'for every input' (looked for: loops, veiled, ifaces, maps, wideKeys, modest, calm, conditions, laid).
  DERIVED. THE GIVEN ROWS OF THIS SEAT. 2 by the template 'for every input the law returns true; each argument reads behind the call as it read before'; 0 by the template 'total and deterministic' (their statements: Qxb6630770aTotals.lean).
  GIVEN WITH THE SEED: the statements are not yours to turn. If you find one false, say at which input.
  Laid BY PROGRAM, IN A SANDBOX (cutbox-rows.mjs): the forced cells as the released guide's own fill.sh prints them over the translation ce2281144b31a635… (all of the seat's roots in one cut). By AI agents, Wed Nov 11 2026. No macro, syntax, notation, axiom, sorry.
-/
import Derived.Test.Qxb6630770aChecked
import GoSem.Claim
import GoSem.ClaimJoined
import GoSem.ClaimMapViews
import Derived.JoinedTies
import Derived.KernelRfl
namespace Go.Proofs.Qxb6630770a
/- THE CELL 'sum', in the pinned program and in every row, IS THE sha256 OF THE DUMP (.gsa) THAT Qxb6630770aProg.lean LOADS. Nothing in Lean hashes anything: it is a label: what it is worth is what the hold of that sum in a sandbox is worth. -/
noncomputable def Try.pinned : Pinned := { name := "qxb6630770a", sum := "ce2281144b31a635496eac4c689ea21f45578d6c82edb20ac0a19b4121dff81b", checked := Try.checked }
namespace Rows
def none {H : Type} : Left H := { results := [], args := [] }

/-- 'zzlaws_aggfrag_b1.FnKeepDetachesPacketsFromCaller': WHATEVER THE INPUT: true; the input reads as it did. -/
def fnKeepDetachesPacketsFromCallerSpec : ChangeSpec := { name := "fnKeepDetachesPacketsFromCaller", fn := fun _ => fun
  | [d1, d2, d3, d4] => { results := [.lit (.bool true)], args := [d1, d2, d3, d4] }
  | _ => none }
def fnKeepDetachesPacketsFromCallerRow : OpenClaim := { program := "qxb6630770a", sum := "ce2281144b31a635496eac4c689ea21f45578d6c82edb20ac0a19b4121dff81b", func := "example.com/evenflow/evenflow/zzlaws_aggfrag_b1.FnKeepDetachesPacketsFromCaller", spec := "fnKeepDetachesPacketsFromCaller", apart := false }
def FnKeepDetachesPacketsFromCallerSaid : Prop := fnKeepDetachesPacketsFromCallerRow.holds Try.pinned (OpenSpec.ofChange fnKeepDetachesPacketsFromCallerSpec)

/-- ITS FALSE NEIGHBOUR: 'it returns false'. Refute it at one input. -/
def fnKeepDetachesPacketsFromCallerWrong : ChangeSpec := { name := "fnKeepDetachesPacketsFromCaller", fn := fun _ => fun
  | [d1, d2, d3, d4] => { results := [.lit (.bool false)], args := [d1, d2, d3, d4] }
  | _ => none }
def FnKeepDetachesPacketsFromCallerWrongFalsely : Prop := fnKeepDetachesPacketsFromCallerRow.holds Try.pinned (OpenSpec.ofChange fnKeepDetachesPacketsFromCallerWrong)

/-- 'zzlaws_aggfrag_b1.FnKeptPacketsDoNotOverlap': WHATEVER THE INPUT: true; the input reads as it did. -/
def fnKeptPacketsDoNotOverlapSpec : ChangeSpec := { name := "fnKeptPacketsDoNotOverlap", fn := fun _ => fun
  | [d1, d2, d3, d4] => { results := [.lit (.bool true)], args := [d1, d2, d3, d4] }
  | _ => none }
def fnKeptPacketsDoNotOverlapRow : OpenClaim := { program := "qxb6630770a", sum := "ce2281144b31a635496eac4c689ea21f45578d6c82edb20ac0a19b4121dff81b", func := "example.com/evenflow/evenflow/zzlaws_aggfrag_b1.FnKeptPacketsDoNotOverlap", spec := "fnKeptPacketsDoNotOverlap", apart := false }
def FnKeptPacketsDoNotOverlapSaid : Prop := fnKeptPacketsDoNotOverlapRow.holds Try.pinned (OpenSpec.ofChange fnKeptPacketsDoNotOverlapSpec)

/-- ITS FALSE NEIGHBOUR: 'it returns false'. Refute it at one input. -/
def fnKeptPacketsDoNotOverlapWrong : ChangeSpec := { name := "fnKeptPacketsDoNotOverlap", fn := fun _ => fun
  | [d1, d2, d3, d4] => { results := [.lit (.bool false)], args := [d1, d2, d3, d4] }
  | _ => none }
def FnKeptPacketsDoNotOverlapWrongFalsely : Prop := fnKeptPacketsDoNotOverlapRow.holds Try.pinned (OpenSpec.ofChange fnKeptPacketsDoNotOverlapWrong)

end Rows
end Go.Proofs.Qxb6630770a
