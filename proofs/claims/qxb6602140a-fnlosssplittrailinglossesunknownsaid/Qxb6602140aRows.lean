/-
  No cell of these rows narrows 'for every input' (looked for: loops, veiled, ifaces, maps, wideKeys, modest, calm, conditions, laid).
  DERIVED. THE GIVEN ROWS OF THIS SEAT. 5 by the template 'for every input the law returns true; each argument reads behind the call as it read before'; 0 by the template 'total and deterministic' (their statements: Qxb6602140aTotals.lean).
  GIVEN WITH THE SEED: the statements are not yours to turn. If you find one false, say at which input.
  Laid BY PROGRAM, IN A SANDBOX (cutbox-rows.mjs): the forced cells as the released guide's own fill.sh prints them over the translation fb816708dfdf6e4f… (all of the seat's roots in one cut). By AI agents, Wed Nov 11 2026. No macro, syntax, notation, axiom, sorry.
-/
import Derived.Test.Qxb6602140aChecked
import GoSem.Claim
import GoSem.ClaimJoined
import GoSem.ClaimMapViews
import Derived.JoinedTies
import Derived.KernelRfl
namespace Go.Proofs.Qxb6602140a
/- THE CELL 'sum', in the pinned program and in every row, IS THE sha256 OF THE DUMP (.gsa) THAT Qxb6602140aProg.lean LOADS. Nothing in Lean hashes anything: it is a label: what it is worth is what the hold of that sum in a sandbox is worth. -/
noncomputable def Try.pinned : Pinned := { name := "qxb6602140a", sum := "fb816708dfdf6e4f1c3cc5167b53702744c24b5b0dbbbaebe5462841e6a08de0", checked := Try.checked }
namespace Rows
def none {H : Type} : Left H := { results := [], args := [] }

/-- 'zzlaws_result_b1.FnDifferenceInverse': WHATEVER THE INPUT: true; the input reads as it did. -/
def fnDifferenceInverseSpec : ChangeSpec := { name := "fnDifferenceInverse", fn := fun _ => fun
  | [d1, d2] => { results := [.lit (.bool true)], args := [d1, d2] }
  | _ => none }
def fnDifferenceInverseRow : OpenClaim := { program := "qxb6602140a", sum := "fb816708dfdf6e4f1c3cc5167b53702744c24b5b0dbbbaebe5462841e6a08de0", func := "example.com/evenpulse/evenpulse/zzlaws_result_b1.FnDifferenceInverse", spec := "fnDifferenceInverse", apart := false }
def FnDifferenceInverseSaid : Prop := fnDifferenceInverseRow.holds Try.pinned (OpenSpec.ofChange fnDifferenceInverseSpec)

/-- ITS FALSE NEIGHBOUR: 'it returns false'. Refute it at one input. -/
def fnDifferenceInverseWrong : ChangeSpec := { name := "fnDifferenceInverse", fn := fun _ => fun
  | [d1, d2] => { results := [.lit (.bool false)], args := [d1, d2] }
  | _ => none }
def FnDifferenceInverseWrongFalsely : Prop := fnDifferenceInverseRow.holds Try.pinned (OpenSpec.ofChange fnDifferenceInverseWrong)

/-- 'zzlaws_result_b1.FnLossSplitFirstReplyClosedForm': WHATEVER THE INPUT: true; the input reads as it did. -/
def fnLossSplitFirstReplyClosedFormSpec : ChangeSpec := { name := "fnLossSplitFirstReplyClosedForm", fn := fun _ => fun
  | [d1, d2] => { results := [.lit (.bool true)], args := [d1, d2] }
  | _ => none }
def fnLossSplitFirstReplyClosedFormRow : OpenClaim := { program := "qxb6602140a", sum := "fb816708dfdf6e4f1c3cc5167b53702744c24b5b0dbbbaebe5462841e6a08de0", func := "example.com/evenpulse/evenpulse/zzlaws_result_b1.FnLossSplitFirstReplyClosedForm", spec := "fnLossSplitFirstReplyClosedForm", apart := false }
def FnLossSplitFirstReplyClosedFormSaid : Prop := fnLossSplitFirstReplyClosedFormRow.holds Try.pinned (OpenSpec.ofChange fnLossSplitFirstReplyClosedFormSpec)

/-- ITS FALSE NEIGHBOUR: 'it returns false'. Refute it at one input. -/
def fnLossSplitFirstReplyClosedFormWrong : ChangeSpec := { name := "fnLossSplitFirstReplyClosedForm", fn := fun _ => fun
  | [d1, d2] => { results := [.lit (.bool false)], args := [d1, d2] }
  | _ => none }
def FnLossSplitFirstReplyClosedFormWrongFalsely : Prop := fnLossSplitFirstReplyClosedFormRow.holds Try.pinned (OpenSpec.ofChange fnLossSplitFirstReplyClosedFormWrong)

/-- 'zzlaws_result_b1.FnLossSplitRecoversTruth': WHATEVER THE INPUT: true; the input reads as it did. -/
def fnLossSplitRecoversTruthSpec : ChangeSpec := { name := "fnLossSplitRecoversTruth", fn := fun _ => fun
  | [d] => { results := [.lit (.bool true)], args := [d] }
  | _ => none }
def fnLossSplitRecoversTruthRow : OpenClaim := { program := "qxb6602140a", sum := "fb816708dfdf6e4f1c3cc5167b53702744c24b5b0dbbbaebe5462841e6a08de0", func := "example.com/evenpulse/evenpulse/zzlaws_result_b1.FnLossSplitRecoversTruth", spec := "fnLossSplitRecoversTruth", apart := false }
def FnLossSplitRecoversTruthSaid : Prop := fnLossSplitRecoversTruthRow.holds Try.pinned (OpenSpec.ofChange fnLossSplitRecoversTruthSpec)

/-- ITS FALSE NEIGHBOUR: 'it returns false'. Refute it at one input. -/
def fnLossSplitRecoversTruthWrong : ChangeSpec := { name := "fnLossSplitRecoversTruth", fn := fun _ => fun
  | [d] => { results := [.lit (.bool false)], args := [d] }
  | _ => none }
def FnLossSplitRecoversTruthWrongFalsely : Prop := fnLossSplitRecoversTruthRow.holds Try.pinned (OpenSpec.ofChange fnLossSplitRecoversTruthWrong)

/-- 'zzlaws_result_b1.FnLossSplitAccountsEveryLoss': WHATEVER THE INPUT: true; the input reads as it did. -/
def fnLossSplitAccountsEveryLossSpec : ChangeSpec := { name := "fnLossSplitAccountsEveryLoss", fn := fun _ => fun
  | [d] => { results := [.lit (.bool true)], args := [d] }
  | _ => none }
def fnLossSplitAccountsEveryLossRow : OpenClaim := { program := "qxb6602140a", sum := "fb816708dfdf6e4f1c3cc5167b53702744c24b5b0dbbbaebe5462841e6a08de0", func := "example.com/evenpulse/evenpulse/zzlaws_result_b1.FnLossSplitAccountsEveryLoss", spec := "fnLossSplitAccountsEveryLoss", apart := false }
def FnLossSplitAccountsEveryLossSaid : Prop := fnLossSplitAccountsEveryLossRow.holds Try.pinned (OpenSpec.ofChange fnLossSplitAccountsEveryLossSpec)

/-- ITS FALSE NEIGHBOUR: 'it returns false'. Refute it at one input. -/
def fnLossSplitAccountsEveryLossWrong : ChangeSpec := { name := "fnLossSplitAccountsEveryLoss", fn := fun _ => fun
  | [d] => { results := [.lit (.bool false)], args := [d] }
  | _ => none }
def FnLossSplitAccountsEveryLossWrongFalsely : Prop := fnLossSplitAccountsEveryLossRow.holds Try.pinned (OpenSpec.ofChange fnLossSplitAccountsEveryLossWrong)

/-- 'zzlaws_result_b1.FnLossSplitTrailingLossesUnknown': WHATEVER THE INPUT: true; the input reads as it did. -/
def fnLossSplitTrailingLossesUnknownSpec : ChangeSpec := { name := "fnLossSplitTrailingLossesUnknown", fn := fun _ => fun
  | [d1, d2] => { results := [.lit (.bool true)], args := [d1, d2] }
  | _ => none }
def fnLossSplitTrailingLossesUnknownRow : OpenClaim := { program := "qxb6602140a", sum := "fb816708dfdf6e4f1c3cc5167b53702744c24b5b0dbbbaebe5462841e6a08de0", func := "example.com/evenpulse/evenpulse/zzlaws_result_b1.FnLossSplitTrailingLossesUnknown", spec := "fnLossSplitTrailingLossesUnknown", apart := false }
def FnLossSplitTrailingLossesUnknownSaid : Prop := fnLossSplitTrailingLossesUnknownRow.holds Try.pinned (OpenSpec.ofChange fnLossSplitTrailingLossesUnknownSpec)

/-- ITS FALSE NEIGHBOUR: 'it returns false'. Refute it at one input. -/
def fnLossSplitTrailingLossesUnknownWrong : ChangeSpec := { name := "fnLossSplitTrailingLossesUnknown", fn := fun _ => fun
  | [d1, d2] => { results := [.lit (.bool false)], args := [d1, d2] }
  | _ => none }
def FnLossSplitTrailingLossesUnknownWrongFalsely : Prop := fnLossSplitTrailingLossesUnknownRow.holds Try.pinned (OpenSpec.ofChange fnLossSplitTrailingLossesUnknownWrong)

end Rows
end Go.Proofs.Qxb6602140a
