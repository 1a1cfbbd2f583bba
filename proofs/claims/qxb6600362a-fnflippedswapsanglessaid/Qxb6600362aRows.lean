/-
  No cell of these rows narrows 'for every input' (looked for: loops, veiled, ifaces, maps, wideKeys, modest, calm, conditions, laid).
  DERIVED. THE GIVEN ROWS OF THIS SEAT. 5 by the template 'for every input the law returns true; each argument reads behind the call as it read before'; 0 by the template 'total and deterministic' (their statements: Qxb6600362aTotals.lean).
  GIVEN WITH THE SEED: the statements are not yours to turn. If you find one false, say at which input.
  Laid BY PROGRAM, IN A SANDBOX (cutbox-rows.mjs): the forced cells as the released guide's own fill.sh prints them over the translation ea6734bd5fd15269… (all of the seat's roots in one cut). By AI agents, Wed Nov 11 2026. No macro, syntax, notation, axiom, sorry.
-/
import Derived.Test.Qxb6600362aChecked
import GoSem.Claim
import GoSem.ClaimJoined
import GoSem.ClaimMapViews
import Derived.JoinedTies
import Derived.KernelRfl
namespace Go.Proofs.Qxb6600362a
/- THE CELL 'sum', in the pinned program and in every row, IS THE sha256 OF THE DUMP (.gsa) THAT Qxb6600362aProg.lean LOADS. Nothing in Lean hashes anything: it is a label: what it is worth is what the hold of that sum in a sandbox is worth. -/
noncomputable def Try.pinned : Pinned := { name := "qxb6600362a", sum := "ea6734bd5fd152692ec2ba020a9a6f1ff81af66cf30ca91bce66b8c062fd45be", checked := Try.checked }
namespace Rows
def none {H : Type} : Left H := { results := [], args := [] }

/-- 'zzlaws_condition_b1.FnHoldsDependsOnlyOnSign': WHATEVER THE INPUT: true; the input reads as it did. -/
def fnHoldsDependsOnlyOnSignSpec : ChangeSpec := { name := "fnHoldsDependsOnlyOnSign", fn := fun _ => fun
  | [d1, d2] => { results := [.lit (.bool true)], args := [d1, d2] }
  | _ => none }
def fnHoldsDependsOnlyOnSignRow : OpenClaim := { program := "qxb6600362a", sum := "ea6734bd5fd152692ec2ba020a9a6f1ff81af66cf30ca91bce66b8c062fd45be", func := "example.com/quartermast/quartermast/zzlaws_condition_b1.FnHoldsDependsOnlyOnSign", spec := "fnHoldsDependsOnlyOnSign", apart := false }
def FnHoldsDependsOnlyOnSignSaid : Prop := fnHoldsDependsOnlyOnSignRow.holds Try.pinned (OpenSpec.ofChange fnHoldsDependsOnlyOnSignSpec)

/-- ITS FALSE NEIGHBOUR: 'it returns false'. Refute it at one input. -/
def fnHoldsDependsOnlyOnSignWrong : ChangeSpec := { name := "fnHoldsDependsOnlyOnSign", fn := fun _ => fun
  | [d1, d2] => { results := [.lit (.bool false)], args := [d1, d2] }
  | _ => none }
def FnHoldsDependsOnlyOnSignWrongFalsely : Prop := fnHoldsDependsOnlyOnSignRow.holds Try.pinned (OpenSpec.ofChange fnHoldsDependsOnlyOnSignWrong)

/-- 'zzlaws_condition_b1.FnHoldsNegationAndTrichotomy': WHATEVER THE INPUT: true; the input reads as it did. -/
def fnHoldsNegationAndTrichotomySpec : ChangeSpec := { name := "fnHoldsNegationAndTrichotomy", fn := fun _ => fun
  | [d] => { results := [.lit (.bool true)], args := [d] }
  | _ => none }
def fnHoldsNegationAndTrichotomyRow : OpenClaim := { program := "qxb6600362a", sum := "ea6734bd5fd152692ec2ba020a9a6f1ff81af66cf30ca91bce66b8c062fd45be", func := "example.com/quartermast/quartermast/zzlaws_condition_b1.FnHoldsNegationAndTrichotomy", spec := "fnHoldsNegationAndTrichotomy", apart := false }
def FnHoldsNegationAndTrichotomySaid : Prop := fnHoldsNegationAndTrichotomyRow.holds Try.pinned (OpenSpec.ofChange fnHoldsNegationAndTrichotomySpec)

/-- ITS FALSE NEIGHBOUR: 'it returns false'. Refute it at one input. -/
def fnHoldsNegationAndTrichotomyWrong : ChangeSpec := { name := "fnHoldsNegationAndTrichotomy", fn := fun _ => fun
  | [d] => { results := [.lit (.bool false)], args := [d] }
  | _ => none }
def FnHoldsNegationAndTrichotomyWrongFalsely : Prop := fnHoldsNegationAndTrichotomyRow.holds Try.pinned (OpenSpec.ofChange fnHoldsNegationAndTrichotomyWrong)

/-- 'zzlaws_condition_b1.FnFlippedSwapsAngles': WHATEVER THE INPUT: true; the input reads as it did. -/
def fnFlippedSwapsAnglesSpec : ChangeSpec := { name := "fnFlippedSwapsAngles", fn := fun _ => fun
  | [d] => { results := [.lit (.bool true)], args := [d] }
  | _ => none }
def fnFlippedSwapsAnglesRow : OpenClaim := { program := "qxb6600362a", sum := "ea6734bd5fd152692ec2ba020a9a6f1ff81af66cf30ca91bce66b8c062fd45be", func := "example.com/quartermast/quartermast/zzlaws_condition_b1.FnFlippedSwapsAngles", spec := "fnFlippedSwapsAngles", apart := false }
def FnFlippedSwapsAnglesSaid : Prop := fnFlippedSwapsAnglesRow.holds Try.pinned (OpenSpec.ofChange fnFlippedSwapsAnglesSpec)

/-- ITS FALSE NEIGHBOUR: 'it returns false'. Refute it at one input. -/
def fnFlippedSwapsAnglesWrong : ChangeSpec := { name := "fnFlippedSwapsAngles", fn := fun _ => fun
  | [d] => { results := [.lit (.bool false)], args := [d] }
  | _ => none }
def FnFlippedSwapsAnglesWrongFalsely : Prop := fnFlippedSwapsAnglesRow.holds Try.pinned (OpenSpec.ofChange fnFlippedSwapsAnglesWrong)

/-- 'zzlaws_condition_b1.FnFlippedInvolution': WHATEVER THE INPUT: true; the input reads as it did. -/
def fnFlippedInvolutionSpec : ChangeSpec := { name := "fnFlippedInvolution", fn := fun _ => fun
  | [d] => { results := [.lit (.bool true)], args := [d] }
  | _ => none }
def fnFlippedInvolutionRow : OpenClaim := { program := "qxb6600362a", sum := "ea6734bd5fd152692ec2ba020a9a6f1ff81af66cf30ca91bce66b8c062fd45be", func := "example.com/quartermast/quartermast/zzlaws_condition_b1.FnFlippedInvolution", spec := "fnFlippedInvolution", apart := false }
def FnFlippedInvolutionSaid : Prop := fnFlippedInvolutionRow.holds Try.pinned (OpenSpec.ofChange fnFlippedInvolutionSpec)

/-- ITS FALSE NEIGHBOUR: 'it returns false'. Refute it at one input. -/
def fnFlippedInvolutionWrong : ChangeSpec := { name := "fnFlippedInvolution", fn := fun _ => fun
  | [d] => { results := [.lit (.bool false)], args := [d] }
  | _ => none }
def FnFlippedInvolutionWrongFalsely : Prop := fnFlippedInvolutionRow.holds Try.pinned (OpenSpec.ofChange fnFlippedInvolutionWrong)

/-- 'zzlaws_condition_b1.FnFlippedAgreesWithHolds': WHATEVER THE INPUT: true; the input reads as it did. -/
def fnFlippedAgreesWithHoldsSpec : ChangeSpec := { name := "fnFlippedAgreesWithHolds", fn := fun _ => fun
  | [d1, d2] => { results := [.lit (.bool true)], args := [d1, d2] }
  | _ => none }
def fnFlippedAgreesWithHoldsRow : OpenClaim := { program := "qxb6600362a", sum := "ea6734bd5fd152692ec2ba020a9a6f1ff81af66cf30ca91bce66b8c062fd45be", func := "example.com/quartermast/quartermast/zzlaws_condition_b1.FnFlippedAgreesWithHolds", spec := "fnFlippedAgreesWithHolds", apart := false }
def FnFlippedAgreesWithHoldsSaid : Prop := fnFlippedAgreesWithHoldsRow.holds Try.pinned (OpenSpec.ofChange fnFlippedAgreesWithHoldsSpec)

/-- ITS FALSE NEIGHBOUR: 'it returns false'. Refute it at one input. -/
def fnFlippedAgreesWithHoldsWrong : ChangeSpec := { name := "fnFlippedAgreesWithHolds", fn := fun _ => fun
  | [d1, d2] => { results := [.lit (.bool false)], args := [d1, d2] }
  | _ => none }
def FnFlippedAgreesWithHoldsWrongFalsely : Prop := fnFlippedAgreesWithHoldsRow.holds Try.pinned (OpenSpec.ofChange fnFlippedAgreesWithHoldsWrong)

end Rows
end Go.Proofs.Qxb6600362a
