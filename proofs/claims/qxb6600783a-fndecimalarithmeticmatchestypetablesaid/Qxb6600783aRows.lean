/-
  No cell of these rows narrows 'for every input' (looked for: loops, veiled, ifaces, maps, wideKeys, modest, calm, conditions, laid).
  DERIVED. THE GIVEN ROWS OF THIS SEAT. 6 by the template 'for every input the law returns true; each argument reads behind the call as it read before'; 0 by the template 'total and deterministic' (their statements: Qxb6600783aTotals.lean).
  GIVEN WITH THE SEED: the statements are not yours to turn. If you find one false, say at which input.
  Laid BY PROGRAM, IN A SANDBOX (cutbox-rows.mjs): the forced cells as the released guide's own fill.sh prints them over the translation 59fbbc7204c4cde7… (all of the seat's roots in one cut). By AI agents, Wed Nov 11 2026. No macro, syntax, notation, axiom, sorry.
-/
import Derived.Test.Qxb6600783aChecked
import GoSem.Claim
import GoSem.ClaimJoined
import GoSem.ClaimMapViews
import Derived.JoinedTies
import Derived.KernelRfl
namespace Go.Proofs.Qxb6600783a
/- THE CELL 'sum', in the pinned program and in every row, IS THE sha256 OF THE DUMP (.gsa) THAT Qxb6600783aProg.lean LOADS. Nothing in Lean hashes anything: it is a label: what it is worth is what the hold of that sum in a sandbox is worth. -/
noncomputable def Try.pinned : Pinned := { name := "qxb6600783a", sum := "59fbbc7204c4cde7eee3cb263c2e3ef79e8bdd4d1385939869c7321449c9517e", checked := Try.checked }
namespace Rows
def none {H : Type} : Left H := { results := [], args := [] }

/-- 'zzlaws_root_b1.FnScanNumberMatchesTwoPhaseModel': WHATEVER THE INPUT: true; the input reads as it did. -/
def fnScanNumberMatchesTwoPhaseModelSpec : ChangeSpec := { name := "fnScanNumberMatchesTwoPhaseModel", fn := fun _ => fun
  | [d1, d2] => { results := [.lit (.bool true)], args := [d1, d2] }
  | _ => none }
def fnScanNumberMatchesTwoPhaseModelRow : OpenClaim := { program := "qxb6600783a", sum := "59fbbc7204c4cde7eee3cb263c2e3ef79e8bdd4d1385939869c7321449c9517e", func := "example.com/castwright/castwright/zzlaws_root_b1.FnScanNumberMatchesTwoPhaseModel", spec := "fnScanNumberMatchesTwoPhaseModel", apart := false }
def FnScanNumberMatchesTwoPhaseModelSaid : Prop := fnScanNumberMatchesTwoPhaseModelRow.holds Try.pinned (OpenSpec.ofChange fnScanNumberMatchesTwoPhaseModelSpec)

/-- ITS FALSE NEIGHBOUR: 'it returns false'. Refute it at one input. -/
def fnScanNumberMatchesTwoPhaseModelWrong : ChangeSpec := { name := "fnScanNumberMatchesTwoPhaseModel", fn := fun _ => fun
  | [d1, d2] => { results := [.lit (.bool false)], args := [d1, d2] }
  | _ => none }
def FnScanNumberMatchesTwoPhaseModelWrongFalsely : Prop := fnScanNumberMatchesTwoPhaseModelRow.holds Try.pinned (OpenSpec.ofChange fnScanNumberMatchesTwoPhaseModelWrong)

/-- 'zzlaws_root_b1.FnScanNumberShiftInvariant': WHATEVER THE INPUT: true; the input reads as it did. -/
def fnScanNumberShiftInvariantSpec : ChangeSpec := { name := "fnScanNumberShiftInvariant", fn := fun _ => fun
  | [d1, d2] => { results := [.lit (.bool true)], args := [d1, d2] }
  | _ => none }
def fnScanNumberShiftInvariantRow : OpenClaim := { program := "qxb6600783a", sum := "59fbbc7204c4cde7eee3cb263c2e3ef79e8bdd4d1385939869c7321449c9517e", func := "example.com/castwright/castwright/zzlaws_root_b1.FnScanNumberShiftInvariant", spec := "fnScanNumberShiftInvariant", apart := false }
def FnScanNumberShiftInvariantSaid : Prop := fnScanNumberShiftInvariantRow.holds Try.pinned (OpenSpec.ofChange fnScanNumberShiftInvariantSpec)

/-- ITS FALSE NEIGHBOUR: 'it returns false'. Refute it at one input. -/
def fnScanNumberShiftInvariantWrong : ChangeSpec := { name := "fnScanNumberShiftInvariant", fn := fun _ => fun
  | [d1, d2] => { results := [.lit (.bool false)], args := [d1, d2] }
  | _ => none }
def FnScanNumberShiftInvariantWrongFalsely : Prop := fnScanNumberShiftInvariantRow.holds Try.pinned (OpenSpec.ofChange fnScanNumberShiftInvariantWrong)

/-- 'zzlaws_root_b1.FnScanNumberUnmovedByWhatFollows': WHATEVER THE INPUT: true; the input reads as it did. -/
def fnScanNumberUnmovedByWhatFollowsSpec : ChangeSpec := { name := "fnScanNumberUnmovedByWhatFollows", fn := fun _ => fun
  | [d1, d2, d3] => { results := [.lit (.bool true)], args := [d1, d2, d3] }
  | _ => none }
def fnScanNumberUnmovedByWhatFollowsRow : OpenClaim := { program := "qxb6600783a", sum := "59fbbc7204c4cde7eee3cb263c2e3ef79e8bdd4d1385939869c7321449c9517e", func := "example.com/castwright/castwright/zzlaws_root_b1.FnScanNumberUnmovedByWhatFollows", spec := "fnScanNumberUnmovedByWhatFollows", apart := false }
def FnScanNumberUnmovedByWhatFollowsSaid : Prop := fnScanNumberUnmovedByWhatFollowsRow.holds Try.pinned (OpenSpec.ofChange fnScanNumberUnmovedByWhatFollowsSpec)

/-- ITS FALSE NEIGHBOUR: 'it returns false'. Refute it at one input. -/
def fnScanNumberUnmovedByWhatFollowsWrong : ChangeSpec := { name := "fnScanNumberUnmovedByWhatFollows", fn := fun _ => fun
  | [d1, d2, d3] => { results := [.lit (.bool false)], args := [d1, d2, d3] }
  | _ => none }
def FnScanNumberUnmovedByWhatFollowsWrongFalsely : Prop := fnScanNumberUnmovedByWhatFollowsRow.holds Try.pinned (OpenSpec.ofChange fnScanNumberUnmovedByWhatFollowsWrong)

/-- 'zzlaws_root_b1.FnDecimalArithmeticMatchesTypeTable': WHATEVER THE INPUT: true; the input reads as it did. -/
def fnDecimalArithmeticMatchesTypeTableSpec : ChangeSpec := { name := "fnDecimalArithmeticMatchesTypeTable", fn := fun _ => fun
  | [d1, d2, d3, d4, d5, d6, d7, d8] => { results := [.lit (.bool true)], args := [d1, d2, d3, d4, d5, d6, d7, d8] }
  | _ => none }
def fnDecimalArithmeticMatchesTypeTableRow : OpenClaim := { program := "qxb6600783a", sum := "59fbbc7204c4cde7eee3cb263c2e3ef79e8bdd4d1385939869c7321449c9517e", func := "example.com/castwright/castwright/zzlaws_root_b1.FnDecimalArithmeticMatchesTypeTable", spec := "fnDecimalArithmeticMatchesTypeTable", apart := false }
def FnDecimalArithmeticMatchesTypeTableSaid : Prop := fnDecimalArithmeticMatchesTypeTableRow.holds Try.pinned (OpenSpec.ofChange fnDecimalArithmeticMatchesTypeTableSpec)

/-- ITS FALSE NEIGHBOUR: 'it returns false'. Refute it at one input. -/
def fnDecimalArithmeticMatchesTypeTableWrong : ChangeSpec := { name := "fnDecimalArithmeticMatchesTypeTable", fn := fun _ => fun
  | [d1, d2, d3, d4, d5, d6, d7, d8] => { results := [.lit (.bool false)], args := [d1, d2, d3, d4, d5, d6, d7, d8] }
  | _ => none }
def FnDecimalArithmeticMatchesTypeTableWrongFalsely : Prop := fnDecimalArithmeticMatchesTypeTableRow.holds Try.pinned (OpenSpec.ofChange fnDecimalArithmeticMatchesTypeTableWrong)

/-- 'zzlaws_root_b1.FnDecimalArithmeticOperandOrderFree': WHATEVER THE INPUT: true; the input reads as it did. -/
def fnDecimalArithmeticOperandOrderFreeSpec : ChangeSpec := { name := "fnDecimalArithmeticOperandOrderFree", fn := fun _ => fun
  | [d1, d2, d3, d4, d5, d6] => { results := [.lit (.bool true)], args := [d1, d2, d3, d4, d5, d6] }
  | _ => none }
def fnDecimalArithmeticOperandOrderFreeRow : OpenClaim := { program := "qxb6600783a", sum := "59fbbc7204c4cde7eee3cb263c2e3ef79e8bdd4d1385939869c7321449c9517e", func := "example.com/castwright/castwright/zzlaws_root_b1.FnDecimalArithmeticOperandOrderFree", spec := "fnDecimalArithmeticOperandOrderFree", apart := false }
def FnDecimalArithmeticOperandOrderFreeSaid : Prop := fnDecimalArithmeticOperandOrderFreeRow.holds Try.pinned (OpenSpec.ofChange fnDecimalArithmeticOperandOrderFreeSpec)

/-- ITS FALSE NEIGHBOUR: 'it returns false'. Refute it at one input. -/
def fnDecimalArithmeticOperandOrderFreeWrong : ChangeSpec := { name := "fnDecimalArithmeticOperandOrderFree", fn := fun _ => fun
  | [d1, d2, d3, d4, d5, d6] => { results := [.lit (.bool false)], args := [d1, d2, d3, d4, d5, d6] }
  | _ => none }
def FnDecimalArithmeticOperandOrderFreeWrongFalsely : Prop := fnDecimalArithmeticOperandOrderFreeRow.holds Try.pinned (OpenSpec.ofChange fnDecimalArithmeticOperandOrderFreeWrong)

/-- 'zzlaws_root_b1.FnDecimalArithmeticWideningNeverNarrows': WHATEVER THE INPUT: true; the input reads as it did. -/
def fnDecimalArithmeticWideningNeverNarrowsSpec : ChangeSpec := { name := "fnDecimalArithmeticWideningNeverNarrows", fn := fun _ => fun
  | [d1, d2, d3, d4, d5, d6, d7] => { results := [.lit (.bool true)], args := [d1, d2, d3, d4, d5, d6, d7] }
  | _ => none }
def fnDecimalArithmeticWideningNeverNarrowsRow : OpenClaim := { program := "qxb6600783a", sum := "59fbbc7204c4cde7eee3cb263c2e3ef79e8bdd4d1385939869c7321449c9517e", func := "example.com/castwright/castwright/zzlaws_root_b1.FnDecimalArithmeticWideningNeverNarrows", spec := "fnDecimalArithmeticWideningNeverNarrows", apart := false }
def FnDecimalArithmeticWideningNeverNarrowsSaid : Prop := fnDecimalArithmeticWideningNeverNarrowsRow.holds Try.pinned (OpenSpec.ofChange fnDecimalArithmeticWideningNeverNarrowsSpec)

/-- ITS FALSE NEIGHBOUR: 'it returns false'. Refute it at one input. -/
def fnDecimalArithmeticWideningNeverNarrowsWrong : ChangeSpec := { name := "fnDecimalArithmeticWideningNeverNarrows", fn := fun _ => fun
  | [d1, d2, d3, d4, d5, d6, d7] => { results := [.lit (.bool false)], args := [d1, d2, d3, d4, d5, d6, d7] }
  | _ => none }
def FnDecimalArithmeticWideningNeverNarrowsWrongFalsely : Prop := fnDecimalArithmeticWideningNeverNarrowsRow.holds Try.pinned (OpenSpec.ofChange fnDecimalArithmeticWideningNeverNarrowsWrong)

end Rows
end Go.Proofs.Qxb6600783a
