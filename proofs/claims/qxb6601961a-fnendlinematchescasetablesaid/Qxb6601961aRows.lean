/-
  No cell of these rows narrows 'for every input' (looked for: loops, veiled, ifaces, maps, wideKeys, modest, calm, conditions, laid).
  DERIVED. THE GIVEN ROWS OF THIS SEAT. 4 by the template 'for every input the law returns true; each argument reads behind the call as it read before'; 0 by the template 'total and deterministic' (their statements: Qxb6601961aTotals.lean).
  GIVEN WITH THE SEED: the statements are not yours to turn. If you find one false, say at which input.
  Laid BY PROGRAM, IN A SANDBOX (cutbox-rows.mjs): the forced cells as the released guide's own fill.sh prints them over the translation 733bdff6598ea328… (all of the seat's roots in one cut). By AI agents, Wed Nov 11 2026. No macro, syntax, notation, axiom, sorry.
-/
import Derived.Test.Qxb6601961aChecked
import GoSem.Claim
import GoSem.ClaimJoined
import GoSem.ClaimMapViews
import Derived.JoinedTies
import Derived.KernelRfl
namespace Go.Proofs.Qxb6601961a
/- THE CELL 'sum', in the pinned program and in every row, IS THE sha256 OF THE DUMP (.gsa) THAT Qxb6601961aProg.lean LOADS. Nothing in Lean hashes anything: it is a label: what it is worth is what the hold of that sum in a sandbox is worth. -/
noncomputable def Try.pinned : Pinned := { name := "qxb6601961a", sum := "733bdff6598ea3282a52c559324ccb028ab26daf787d616314f1ca060ea12156", checked := Try.checked }
namespace Rows
def none {H : Type} : Left H := { results := [], args := [] }

/-- 'zzlaws_sse_b1.FnKeepAppendsToKeptPrefix': WHATEVER THE INPUT: true; the input reads as it did. -/
def fnKeepAppendsToKeptPrefixSpec : ChangeSpec := { name := "fnKeepAppendsToKeptPrefix", fn := fun _ => fun
  | [d1, d2, d3, d4, d5, d6, d7, d8] => { results := [.lit (.bool true)], args := [d1, d2, d3, d4, d5, d6, d7, d8] }
  | _ => none }
def fnKeepAppendsToKeptPrefixRow : OpenClaim := { program := "qxb6601961a", sum := "733bdff6598ea3282a52c559324ccb028ab26daf787d616314f1ca060ea12156", func := "example.com/tidegate/tidegate/zzlaws_sse_b1.FnKeepAppendsToKeptPrefix", spec := "fnKeepAppendsToKeptPrefix", apart := false }
def FnKeepAppendsToKeptPrefixSaid : Prop := fnKeepAppendsToKeptPrefixRow.holds Try.pinned (OpenSpec.ofChange fnKeepAppendsToKeptPrefixSpec)

/-- ITS FALSE NEIGHBOUR: 'it returns false'. Refute it at one input. -/
def fnKeepAppendsToKeptPrefixWrong : ChangeSpec := { name := "fnKeepAppendsToKeptPrefix", fn := fun _ => fun
  | [d1, d2, d3, d4, d5, d6, d7, d8] => { results := [.lit (.bool false)], args := [d1, d2, d3, d4, d5, d6, d7, d8] }
  | _ => none }
def FnKeepAppendsToKeptPrefixWrongFalsely : Prop := fnKeepAppendsToKeptPrefixRow.holds Try.pinned (OpenSpec.ofChange fnKeepAppendsToKeptPrefixWrong)

/-- 'zzlaws_sse_b1.FnKeepOfConcatenationIsTwoKeeps': WHATEVER THE INPUT: true; the input reads as it did. -/
def fnKeepOfConcatenationIsTwoKeepsSpec : ChangeSpec := { name := "fnKeepOfConcatenationIsTwoKeeps", fn := fun _ => fun
  | [d1, d2, d3, d4, d5, d6, d7, d8, d9] => { results := [.lit (.bool true)], args := [d1, d2, d3, d4, d5, d6, d7, d8, d9] }
  | _ => none }
def fnKeepOfConcatenationIsTwoKeepsRow : OpenClaim := { program := "qxb6601961a", sum := "733bdff6598ea3282a52c559324ccb028ab26daf787d616314f1ca060ea12156", func := "example.com/tidegate/tidegate/zzlaws_sse_b1.FnKeepOfConcatenationIsTwoKeeps", spec := "fnKeepOfConcatenationIsTwoKeeps", apart := false }
def FnKeepOfConcatenationIsTwoKeepsSaid : Prop := fnKeepOfConcatenationIsTwoKeepsRow.holds Try.pinned (OpenSpec.ofChange fnKeepOfConcatenationIsTwoKeepsSpec)

/-- ITS FALSE NEIGHBOUR: 'it returns false'. Refute it at one input. -/
def fnKeepOfConcatenationIsTwoKeepsWrong : ChangeSpec := { name := "fnKeepOfConcatenationIsTwoKeeps", fn := fun _ => fun
  | [d1, d2, d3, d4, d5, d6, d7, d8, d9] => { results := [.lit (.bool false)], args := [d1, d2, d3, d4, d5, d6, d7, d8, d9] }
  | _ => none }
def FnKeepOfConcatenationIsTwoKeepsWrongFalsely : Prop := fnKeepOfConcatenationIsTwoKeepsRow.holds Try.pinned (OpenSpec.ofChange fnKeepOfConcatenationIsTwoKeepsWrong)

/-- 'zzlaws_sse_b1.FnEndLineMatchesCaseTable': WHATEVER THE INPUT: true; the input reads as it did. -/
def fnEndLineMatchesCaseTableSpec : ChangeSpec := { name := "fnEndLineMatchesCaseTable", fn := fun _ => fun
  | [d1, d2, d3, d4, d5, d6, d7] => { results := [.lit (.bool true)], args := [d1, d2, d3, d4, d5, d6, d7] }
  | _ => none }
def fnEndLineMatchesCaseTableRow : OpenClaim := { program := "qxb6601961a", sum := "733bdff6598ea3282a52c559324ccb028ab26daf787d616314f1ca060ea12156", func := "example.com/tidegate/tidegate/zzlaws_sse_b1.FnEndLineMatchesCaseTable", spec := "fnEndLineMatchesCaseTable", apart := false }
def FnEndLineMatchesCaseTableSaid : Prop := fnEndLineMatchesCaseTableRow.holds Try.pinned (OpenSpec.ofChange fnEndLineMatchesCaseTableSpec)

/-- ITS FALSE NEIGHBOUR: 'it returns false'. Refute it at one input. -/
def fnEndLineMatchesCaseTableWrong : ChangeSpec := { name := "fnEndLineMatchesCaseTable", fn := fun _ => fun
  | [d1, d2, d3, d4, d5, d6, d7] => { results := [.lit (.bool false)], args := [d1, d2, d3, d4, d5, d6, d7] }
  | _ => none }
def FnEndLineMatchesCaseTableWrongFalsely : Prop := fnEndLineMatchesCaseTableRow.holds Try.pinned (OpenSpec.ofChange fnEndLineMatchesCaseTableWrong)

/-- 'zzlaws_sse_b1.FnEndLineIgnoresStaleBytes': WHATEVER THE INPUT: true; the input reads as it did. -/
def fnEndLineIgnoresStaleBytesSpec : ChangeSpec := { name := "fnEndLineIgnoresStaleBytes", fn := fun _ => fun
  | [d1, d2, d3, d4, d5, d6, d7, d8] => { results := [.lit (.bool true)], args := [d1, d2, d3, d4, d5, d6, d7, d8] }
  | _ => none }
def fnEndLineIgnoresStaleBytesRow : OpenClaim := { program := "qxb6601961a", sum := "733bdff6598ea3282a52c559324ccb028ab26daf787d616314f1ca060ea12156", func := "example.com/tidegate/tidegate/zzlaws_sse_b1.FnEndLineIgnoresStaleBytes", spec := "fnEndLineIgnoresStaleBytes", apart := false }
def FnEndLineIgnoresStaleBytesSaid : Prop := fnEndLineIgnoresStaleBytesRow.holds Try.pinned (OpenSpec.ofChange fnEndLineIgnoresStaleBytesSpec)

/-- ITS FALSE NEIGHBOUR: 'it returns false'. Refute it at one input. -/
def fnEndLineIgnoresStaleBytesWrong : ChangeSpec := { name := "fnEndLineIgnoresStaleBytes", fn := fun _ => fun
  | [d1, d2, d3, d4, d5, d6, d7, d8] => { results := [.lit (.bool false)], args := [d1, d2, d3, d4, d5, d6, d7, d8] }
  | _ => none }
def FnEndLineIgnoresStaleBytesWrongFalsely : Prop := fnEndLineIgnoresStaleBytesRow.holds Try.pinned (OpenSpec.ofChange fnEndLineIgnoresStaleBytesWrong)

end Rows
end Go.Proofs.Qxb6601961a
