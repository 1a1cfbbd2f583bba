/-
  No cell of these rows narrows 'for every input' (looked for: loops, veiled, ifaces, maps, wideKeys, modest, calm, conditions, laid).
  DERIVED. THE GIVEN ROWS OF THIS SEAT. 5 by the template 'for every input the law returns true; each argument reads behind the call as it read before'; 0 by the template 'total and deterministic' (their statements: Qxb6601240aTotals.lean).
  GIVEN WITH THE SEED: the statements are not yours to turn. If you find one false, say at which input.
  Laid BY PROGRAM, IN A SANDBOX (cutbox-rows.mjs): the forced cells as the released guide's own fill.sh prints them over the translation 62e67e1c209c04bc… (all of the seat's roots in one cut). By AI agents, Wed Nov 11 2026. No macro, syntax, notation, axiom, sorry.
-/
import Derived.Test.Qxb6601240aChecked
import GoSem.Claim
import GoSem.ClaimJoined
import GoSem.ClaimMapViews
import Derived.JoinedTies
import Derived.KernelRfl
namespace Go.Proofs.Qxb6601240a
/- THE CELL 'sum', in the pinned program and in every row, IS THE sha256 OF THE DUMP (.gsa) THAT Qxb6601240aProg.lean LOADS. Nothing in Lean hashes anything: it is a label: what it is worth is what the hold of that sum in a sandbox is worth. -/
noncomputable def Try.pinned : Pinned := { name := "qxb6601240a", sum := "62e67e1c209c04bcb8bf4f5209dedf049e426083507f4b2c4a1ee7c33f73690a", checked := Try.checked }
namespace Rows
def none {H : Type} : Left H := { results := [], args := [] }

/-- 'zzlaws_plan_b1.FnStringEndMatchesRunScanner': WHATEVER THE INPUT: true; the input reads as it did. -/
def fnStringEndMatchesRunScannerSpec : ChangeSpec := { name := "fnStringEndMatchesRunScanner", fn := fun _ => fun
  | [d1, d2] => { results := [.lit (.bool true)], args := [d1, d2] }
  | _ => none }
def fnStringEndMatchesRunScannerRow : OpenClaim := { program := "qxb6601240a", sum := "62e67e1c209c04bcb8bf4f5209dedf049e426083507f4b2c4a1ee7c33f73690a", func := "example.com/vestline/vestline/zzlaws_plan_b1.FnStringEndMatchesRunScanner", spec := "fnStringEndMatchesRunScanner", inPlace := ["internal/abi.NoEscape", "internal/bytealg.MakeNoZero"], apart := false }
def FnStringEndMatchesRunScannerSaid : Prop := fnStringEndMatchesRunScannerRow.holds Try.pinned (OpenSpec.ofChange fnStringEndMatchesRunScannerSpec)

/-- ITS FALSE NEIGHBOUR: 'it returns false'. Refute it at one input. -/
def fnStringEndMatchesRunScannerWrong : ChangeSpec := { name := "fnStringEndMatchesRunScanner", fn := fun _ => fun
  | [d1, d2] => { results := [.lit (.bool false)], args := [d1, d2] }
  | _ => none }
def FnStringEndMatchesRunScannerWrongFalsely : Prop := fnStringEndMatchesRunScannerRow.holds Try.pinned (OpenSpec.ofChange fnStringEndMatchesRunScannerWrong)

/-- 'zzlaws_plan_b1.FnStringEndReadsNothingPastEnd': WHATEVER THE INPUT: true; the input reads as it did. -/
def fnStringEndReadsNothingPastEndSpec : ChangeSpec := { name := "fnStringEndReadsNothingPastEnd", fn := fun _ => fun
  | [d1, d2, d3] => { results := [.lit (.bool true)], args := [d1, d2, d3] }
  | _ => none }
def fnStringEndReadsNothingPastEndRow : OpenClaim := { program := "qxb6601240a", sum := "62e67e1c209c04bcb8bf4f5209dedf049e426083507f4b2c4a1ee7c33f73690a", func := "example.com/vestline/vestline/zzlaws_plan_b1.FnStringEndReadsNothingPastEnd", spec := "fnStringEndReadsNothingPastEnd", inPlace := ["internal/abi.NoEscape", "internal/bytealg.MakeNoZero"], apart := false }
def FnStringEndReadsNothingPastEndSaid : Prop := fnStringEndReadsNothingPastEndRow.holds Try.pinned (OpenSpec.ofChange fnStringEndReadsNothingPastEndSpec)

/-- ITS FALSE NEIGHBOUR: 'it returns false'. Refute it at one input. -/
def fnStringEndReadsNothingPastEndWrong : ChangeSpec := { name := "fnStringEndReadsNothingPastEnd", fn := fun _ => fun
  | [d1, d2, d3] => { results := [.lit (.bool false)], args := [d1, d2, d3] }
  | _ => none }
def FnStringEndReadsNothingPastEndWrongFalsely : Prop := fnStringEndReadsNothingPastEndRow.holds Try.pinned (OpenSpec.ofChange fnStringEndReadsNothingPastEndWrong)

/-- 'zzlaws_plan_b1.FnStringEndShiftsWithAPrefix': WHATEVER THE INPUT: true; the input reads as it did. -/
def fnStringEndShiftsWithAPrefixSpec : ChangeSpec := { name := "fnStringEndShiftsWithAPrefix", fn := fun _ => fun
  | [d1, d2, d3] => { results := [.lit (.bool true)], args := [d1, d2, d3] }
  | _ => none }
def fnStringEndShiftsWithAPrefixRow : OpenClaim := { program := "qxb6601240a", sum := "62e67e1c209c04bcb8bf4f5209dedf049e426083507f4b2c4a1ee7c33f73690a", func := "example.com/vestline/vestline/zzlaws_plan_b1.FnStringEndShiftsWithAPrefix", spec := "fnStringEndShiftsWithAPrefix", inPlace := ["internal/abi.NoEscape", "internal/bytealg.MakeNoZero"], apart := false }
def FnStringEndShiftsWithAPrefixSaid : Prop := fnStringEndShiftsWithAPrefixRow.holds Try.pinned (OpenSpec.ofChange fnStringEndShiftsWithAPrefixSpec)

/-- ITS FALSE NEIGHBOUR: 'it returns false'. Refute it at one input. -/
def fnStringEndShiftsWithAPrefixWrong : ChangeSpec := { name := "fnStringEndShiftsWithAPrefix", fn := fun _ => fun
  | [d1, d2, d3] => { results := [.lit (.bool false)], args := [d1, d2, d3] }
  | _ => none }
def FnStringEndShiftsWithAPrefixWrongFalsely : Prop := fnStringEndShiftsWithAPrefixRow.holds Try.pinned (OpenSpec.ofChange fnStringEndShiftsWithAPrefixWrong)

/-- 'zzlaws_plan_b1.FnIsBlankIffNoCharacters': WHATEVER THE INPUT: true; the input reads as it did. -/
def fnIsBlankIffNoCharactersSpec : ChangeSpec := { name := "fnIsBlankIffNoCharacters", fn := fun _ => fun
  | [d] => { results := [.lit (.bool true)], args := [d] }
  | _ => none }
def fnIsBlankIffNoCharactersRow : OpenClaim := { program := "qxb6601240a", sum := "62e67e1c209c04bcb8bf4f5209dedf049e426083507f4b2c4a1ee7c33f73690a", func := "example.com/vestline/vestline/zzlaws_plan_b1.FnIsBlankIffNoCharacters", spec := "fnIsBlankIffNoCharacters", apart := false }
def FnIsBlankIffNoCharactersSaid : Prop := fnIsBlankIffNoCharactersRow.holds Try.pinned (OpenSpec.ofChange fnIsBlankIffNoCharactersSpec)

/-- ITS FALSE NEIGHBOUR: 'it returns false'. Refute it at one input. -/
def fnIsBlankIffNoCharactersWrong : ChangeSpec := { name := "fnIsBlankIffNoCharacters", fn := fun _ => fun
  | [d] => { results := [.lit (.bool false)], args := [d] }
  | _ => none }
def FnIsBlankIffNoCharactersWrongFalsely : Prop := fnIsBlankIffNoCharactersRow.holds Try.pinned (OpenSpec.ofChange fnIsBlankIffNoCharactersWrong)

/-- 'zzlaws_plan_b1.FnIsBlankSplitsAtEveryCut': WHATEVER THE INPUT: true; the input reads as it did. -/
def fnIsBlankSplitsAtEveryCutSpec : ChangeSpec := { name := "fnIsBlankSplitsAtEveryCut", fn := fun _ => fun
  | [d1, d2] => { results := [.lit (.bool true)], args := [d1, d2] }
  | _ => none }
def fnIsBlankSplitsAtEveryCutRow : OpenClaim := { program := "qxb6601240a", sum := "62e67e1c209c04bcb8bf4f5209dedf049e426083507f4b2c4a1ee7c33f73690a", func := "example.com/vestline/vestline/zzlaws_plan_b1.FnIsBlankSplitsAtEveryCut", spec := "fnIsBlankSplitsAtEveryCut", apart := false }
def FnIsBlankSplitsAtEveryCutSaid : Prop := fnIsBlankSplitsAtEveryCutRow.holds Try.pinned (OpenSpec.ofChange fnIsBlankSplitsAtEveryCutSpec)

/-- ITS FALSE NEIGHBOUR: 'it returns false'. Refute it at one input. -/
def fnIsBlankSplitsAtEveryCutWrong : ChangeSpec := { name := "fnIsBlankSplitsAtEveryCut", fn := fun _ => fun
  | [d1, d2] => { results := [.lit (.bool false)], args := [d1, d2] }
  | _ => none }
def FnIsBlankSplitsAtEveryCutWrongFalsely : Prop := fnIsBlankSplitsAtEveryCutRow.holds Try.pinned (OpenSpec.ofChange fnIsBlankSplitsAtEveryCutWrong)

end Rows
end Go.Proofs.Qxb6601240a
