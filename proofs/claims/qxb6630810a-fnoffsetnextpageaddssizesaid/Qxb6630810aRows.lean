/-
  No cell of these rows narrows 'for every input' (looked for: loops, veiled, ifaces, maps, wideKeys, modest, calm, conditions, laid).
  DERIVED. THE GIVEN ROWS OF THIS SEAT. 2 by the template 'for every input the law returns true; each argument reads behind the call as it read before'; 0 by the template 'total and deterministic' (their statements: Qxb6630810aTotals.lean).
  GIVEN WITH THE SEED: the statements are not yours to turn. If you find one false, say at which input.
  Laid BY PROGRAM, IN A SANDBOX (cutbox-rows.mjs): the forced cells as the released guide's own fill.sh prints them over the translation f86c4816844822fb… (all of the seat's roots in one cut). By AI agents, Wed Nov 11 2026. No macro, syntax, notation, axiom, sorry.
-/
import Derived.Test.Qxb6630810aChecked
import GoSem.Claim
import GoSem.ClaimJoined
import GoSem.ClaimMapViews
import Derived.JoinedTies
import Derived.KernelRfl
namespace Go.Proofs.Qxb6630810a
/- THE CELL 'sum', in the pinned program and in every row, IS THE sha256 OF THE DUMP (.gsa) THAT Qxb6630810aProg.lean LOADS. Nothing in Lean hashes anything: it is a label: what it is worth is what the hold of that sum in a sandbox is worth. -/
noncomputable def Try.pinned : Pinned := { name := "qxb6630810a", sum := "f86c4816844822fb7a8229277ad75fe4b598f68b5bcc0a8e70dc80c1697d911e", checked := Try.checked }
namespace Rows
def none {H : Type} : Left H := { results := [], args := [] }

/-- 'zzlaws_internal_api_b1.FnOffsetNextPageAddsSize': WHATEVER THE INPUT: true; the input reads as it did. -/
def fnOffsetNextPageAddsSizeSpec : ChangeSpec := { name := "fnOffsetNextPageAddsSize", fn := fun _ => fun
  | [d1, d2] => { results := [.lit (.bool true)], args := [d1, d2] }
  | _ => none }
def fnOffsetNextPageAddsSizeRow : OpenClaim := { program := "qxb6630810a", sum := "f86c4816844822fb7a8229277ad75fe4b598f68b5bcc0a8e70dc80c1697d911e", func := "example.com/waymark/waymark/zzlaws_internal_api_b1.FnOffsetNextPageAddsSize", spec := "fnOffsetNextPageAddsSize", apart := false }
def FnOffsetNextPageAddsSizeSaid : Prop := fnOffsetNextPageAddsSizeRow.holds Try.pinned (OpenSpec.ofChange fnOffsetNextPageAddsSizeSpec)

/-- ITS FALSE NEIGHBOUR: 'it returns false'. Refute it at one input. -/
def fnOffsetNextPageAddsSizeWrong : ChangeSpec := { name := "fnOffsetNextPageAddsSize", fn := fun _ => fun
  | [d1, d2] => { results := [.lit (.bool false)], args := [d1, d2] }
  | _ => none }
def FnOffsetNextPageAddsSizeWrongFalsely : Prop := fnOffsetNextPageAddsSizeRow.holds Try.pinned (OpenSpec.ofChange fnOffsetNextPageAddsSizeWrong)

/-- 'zzlaws_internal_api_b1.FnOffsetAdditiveInSize': WHATEVER THE INPUT: true; the input reads as it did. -/
def fnOffsetAdditiveInSizeSpec : ChangeSpec := { name := "fnOffsetAdditiveInSize", fn := fun _ => fun
  | [d1, d2, d3] => { results := [.lit (.bool true)], args := [d1, d2, d3] }
  | _ => none }
def fnOffsetAdditiveInSizeRow : OpenClaim := { program := "qxb6630810a", sum := "f86c4816844822fb7a8229277ad75fe4b598f68b5bcc0a8e70dc80c1697d911e", func := "example.com/waymark/waymark/zzlaws_internal_api_b1.FnOffsetAdditiveInSize", spec := "fnOffsetAdditiveInSize", apart := false }
def FnOffsetAdditiveInSizeSaid : Prop := fnOffsetAdditiveInSizeRow.holds Try.pinned (OpenSpec.ofChange fnOffsetAdditiveInSizeSpec)

/-- ITS FALSE NEIGHBOUR: 'it returns false'. Refute it at one input. -/
def fnOffsetAdditiveInSizeWrong : ChangeSpec := { name := "fnOffsetAdditiveInSize", fn := fun _ => fun
  | [d1, d2, d3] => { results := [.lit (.bool false)], args := [d1, d2, d3] }
  | _ => none }
def FnOffsetAdditiveInSizeWrongFalsely : Prop := fnOffsetAdditiveInSizeRow.holds Try.pinned (OpenSpec.ofChange fnOffsetAdditiveInSizeWrong)

end Rows
end Go.Proofs.Qxb6630810a
