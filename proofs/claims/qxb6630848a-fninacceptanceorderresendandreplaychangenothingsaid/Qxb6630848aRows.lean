/-
  NARROWER THAN 'FOR EVERY INPUT', by the rows' own cells (each row's printed sentence says how): FnInAcceptanceOrderSplitAtAnyCut: maps · FnInAcceptanceOrderResendAndReplayChangeNothing: maps.
  DERIVED. THE GIVEN ROWS OF THIS SEAT. 2 by the template 'for every input the law returns true; each argument reads behind the call as it read before'; 0 by the template 'total and deterministic' (their statements: Qxb6630848aTotals.lean).
  GIVEN WITH THE SEED: the statements are not yours to turn. If you find one false, say at which input.
  Laid BY PROGRAM, IN A SANDBOX (cutbox-rows.mjs): the forced cells as the released guide's own fill.sh prints them over the translation 9153b1b03267b49a… (all of the seat's roots in one cut). By AI agents, Wed Nov 11 2026. No macro, syntax, notation, axiom, sorry.
-/
import Derived.Test.Qxb6630848aChecked
import GoSem.Claim
import GoSem.ClaimJoined
import GoSem.ClaimMapViews
import Derived.JoinedTies
import Derived.KernelRfl
namespace Go.Proofs.Qxb6630848a
/- THE CELL 'sum', in the pinned program and in every row, IS THE sha256 OF THE DUMP (.gsa) THAT Qxb6630848aProg.lean LOADS. Nothing in Lean hashes anything: it is a label: what it is worth is what the hold of that sum in a sandbox is worth. -/
noncomputable def Try.pinned : Pinned := { name := "qxb6630848a", sum := "9153b1b03267b49a5a1c187767c8472a09ac13852b5a4927c14e435bf63f9e32", checked := Try.checked }
namespace Rows
def none {H : Type} : Left H := { results := [], args := [] }

/-- 'zzlaws_internal_trailtest_b1.FnInAcceptanceOrderSplitAtAnyCut': WHATEVER THE INPUT: true; the input reads as it did. -/
def fnInAcceptanceOrderSplitAtAnyCutSpec : ChangeSpec := { name := "fnInAcceptanceOrderSplitAtAnyCut", fn := fun _ => fun
  | [d1, d2] => { results := [.lit (.bool true)], args := [d1, d2] }
  | _ => none }
def fnInAcceptanceOrderSplitAtAnyCutRow : OpenClaim := { program := "qxb6630848a", sum := "9153b1b03267b49a5a1c187767c8472a09ac13852b5a4927c14e435bf63f9e32", func := "example.com/deep-trail/deep-trail/zzlaws_internal_trailtest_b1.FnInAcceptanceOrderSplitAtAnyCut", spec := "fnInAcceptanceOrderSplitAtAnyCut", maps := true, apart := false }
def FnInAcceptanceOrderSplitAtAnyCutSaid : Prop := fnInAcceptanceOrderSplitAtAnyCutRow.holds Try.pinned (OpenSpec.ofChange fnInAcceptanceOrderSplitAtAnyCutSpec)

/-- ITS FALSE NEIGHBOUR: 'it returns false'. Refute it at one input. -/
def fnInAcceptanceOrderSplitAtAnyCutWrong : ChangeSpec := { name := "fnInAcceptanceOrderSplitAtAnyCut", fn := fun _ => fun
  | [d1, d2] => { results := [.lit (.bool false)], args := [d1, d2] }
  | _ => none }
def FnInAcceptanceOrderSplitAtAnyCutWrongFalsely : Prop := fnInAcceptanceOrderSplitAtAnyCutRow.holds Try.pinned (OpenSpec.ofChange fnInAcceptanceOrderSplitAtAnyCutWrong)

/-- 'zzlaws_internal_trailtest_b1.FnInAcceptanceOrderResendAndReplayChangeNothing': WHATEVER THE INPUT: true; the input reads as it did. -/
def fnInAcceptanceOrderResendAndReplayChangeNothingSpec : ChangeSpec := { name := "fnInAcceptanceOrderResendAndReplayChangeNothing", fn := fun _ => fun
  | [d] => { results := [.lit (.bool true)], args := [d] }
  | _ => none }
def fnInAcceptanceOrderResendAndReplayChangeNothingRow : OpenClaim := { program := "qxb6630848a", sum := "9153b1b03267b49a5a1c187767c8472a09ac13852b5a4927c14e435bf63f9e32", func := "example.com/deep-trail/deep-trail/zzlaws_internal_trailtest_b1.FnInAcceptanceOrderResendAndReplayChangeNothing", spec := "fnInAcceptanceOrderResendAndReplayChangeNothing", maps := true, apart := false }
def FnInAcceptanceOrderResendAndReplayChangeNothingSaid : Prop := fnInAcceptanceOrderResendAndReplayChangeNothingRow.holds Try.pinned (OpenSpec.ofChange fnInAcceptanceOrderResendAndReplayChangeNothingSpec)

/-- ITS FALSE NEIGHBOUR: 'it returns false'. Refute it at one input. -/
def fnInAcceptanceOrderResendAndReplayChangeNothingWrong : ChangeSpec := { name := "fnInAcceptanceOrderResendAndReplayChangeNothing", fn := fun _ => fun
  | [d] => { results := [.lit (.bool false)], args := [d] }
  | _ => none }
def FnInAcceptanceOrderResendAndReplayChangeNothingWrongFalsely : Prop := fnInAcceptanceOrderResendAndReplayChangeNothingRow.holds Try.pinned (OpenSpec.ofChange fnInAcceptanceOrderResendAndReplayChangeNothingWrong)

end Rows
end Go.Proofs.Qxb6630848a
