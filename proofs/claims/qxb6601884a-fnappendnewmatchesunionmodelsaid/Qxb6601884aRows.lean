/-
  No cell of these rows narrows 'for every input' (looked for: loops, veiled, ifaces, maps, wideKeys, modest, calm, conditions, laid).
  DERIVED. THE GIVEN ROWS OF THIS SEAT. 6 by the template 'for every input the law returns true; each argument reads behind the call as it read before'; 0 by the template 'total and deterministic' (their statements: Qxb6601884aTotals.lean).
  GIVEN WITH THE SEED: the statements are not yours to turn. If you find one false, say at which input.
  Laid BY PROGRAM, IN A SANDBOX (cutbox-rows.mjs): the forced cells as the released guide's own fill.sh prints them over the translation 1301b877aaaa00ec… (all of the seat's roots in one cut). By AI agents, Wed Nov 11 2026. No macro, syntax, notation, axiom, sorry.
-/
import Derived.Test.Qxb6601884aChecked
import GoSem.Claim
import GoSem.ClaimJoined
import GoSem.ClaimMapViews
import Derived.JoinedTies
import Derived.KernelRfl
namespace Go.Proofs.Qxb6601884a
/- THE CELL 'sum', in the pinned program and in every row, IS THE sha256 OF THE DUMP (.gsa) THAT Qxb6601884aProg.lean LOADS. Nothing in Lean hashes anything: it is a label: what it is worth is what the hold of that sum in a sandbox is worth. -/
noncomputable def Try.pinned : Pinned := { name := "qxb6601884a", sum := "1301b877aaaa00ec1aac5a579f0317202630b0f461881a50b78721f8093de5f5", checked := Try.checked }
namespace Rows
def none {H : Type} : Left H := { results := [], args := [] }

/-- 'zzlaws_policy_b1.FnAppendNewMatchesUnionModel': WHATEVER THE INPUT: true; the input reads as it did. -/
def fnAppendNewMatchesUnionModelSpec : ChangeSpec := { name := "fnAppendNewMatchesUnionModel", fn := fun _ => fun
  | [d1, d2] => { results := [.lit (.bool true)], args := [d1, d2] }
  | _ => none }
def fnAppendNewMatchesUnionModelRow : OpenClaim := { program := "qxb6601884a", sum := "1301b877aaaa00ec1aac5a579f0317202630b0f461881a50b78721f8093de5f5", func := "example.com/portcullis/portcullis/zzlaws_policy_b1.FnAppendNewMatchesUnionModel", spec := "fnAppendNewMatchesUnionModel", apart := false }
def FnAppendNewMatchesUnionModelSaid : Prop := fnAppendNewMatchesUnionModelRow.holds Try.pinned (OpenSpec.ofChange fnAppendNewMatchesUnionModelSpec)

/-- ITS FALSE NEIGHBOUR: 'it returns false'. Refute it at one input. -/
def fnAppendNewMatchesUnionModelWrong : ChangeSpec := { name := "fnAppendNewMatchesUnionModel", fn := fun _ => fun
  | [d1, d2] => { results := [.lit (.bool false)], args := [d1, d2] }
  | _ => none }
def FnAppendNewMatchesUnionModelWrongFalsely : Prop := fnAppendNewMatchesUnionModelRow.holds Try.pinned (OpenSpec.ofChange fnAppendNewMatchesUnionModelWrong)

/-- 'zzlaws_policy_b1.FnAppendNewIsIdempotent': WHATEVER THE INPUT: true; the input reads as it did. -/
def fnAppendNewIsIdempotentSpec : ChangeSpec := { name := "fnAppendNewIsIdempotent", fn := fun _ => fun
  | [d1, d2] => { results := [.lit (.bool true)], args := [d1, d2] }
  | _ => none }
def fnAppendNewIsIdempotentRow : OpenClaim := { program := "qxb6601884a", sum := "1301b877aaaa00ec1aac5a579f0317202630b0f461881a50b78721f8093de5f5", func := "example.com/portcullis/portcullis/zzlaws_policy_b1.FnAppendNewIsIdempotent", spec := "fnAppendNewIsIdempotent", apart := false }
def FnAppendNewIsIdempotentSaid : Prop := fnAppendNewIsIdempotentRow.holds Try.pinned (OpenSpec.ofChange fnAppendNewIsIdempotentSpec)

/-- ITS FALSE NEIGHBOUR: 'it returns false'. Refute it at one input. -/
def fnAppendNewIsIdempotentWrong : ChangeSpec := { name := "fnAppendNewIsIdempotent", fn := fun _ => fun
  | [d1, d2] => { results := [.lit (.bool false)], args := [d1, d2] }
  | _ => none }
def FnAppendNewIsIdempotentWrongFalsely : Prop := fnAppendNewIsIdempotentRow.holds Try.pinned (OpenSpec.ofChange fnAppendNewIsIdempotentWrong)

/-- 'zzlaws_policy_b1.FnAppendNewSplitsOverConcatenation': WHATEVER THE INPUT: true; the input reads as it did. -/
def fnAppendNewSplitsOverConcatenationSpec : ChangeSpec := { name := "fnAppendNewSplitsOverConcatenation", fn := fun _ => fun
  | [d1, d2, d3] => { results := [.lit (.bool true)], args := [d1, d2, d3] }
  | _ => none }
def fnAppendNewSplitsOverConcatenationRow : OpenClaim := { program := "qxb6601884a", sum := "1301b877aaaa00ec1aac5a579f0317202630b0f461881a50b78721f8093de5f5", func := "example.com/portcullis/portcullis/zzlaws_policy_b1.FnAppendNewSplitsOverConcatenation", spec := "fnAppendNewSplitsOverConcatenation", apart := false }
def FnAppendNewSplitsOverConcatenationSaid : Prop := fnAppendNewSplitsOverConcatenationRow.holds Try.pinned (OpenSpec.ofChange fnAppendNewSplitsOverConcatenationSpec)

/-- ITS FALSE NEIGHBOUR: 'it returns false'. Refute it at one input. -/
def fnAppendNewSplitsOverConcatenationWrong : ChangeSpec := { name := "fnAppendNewSplitsOverConcatenation", fn := fun _ => fun
  | [d1, d2, d3] => { results := [.lit (.bool false)], args := [d1, d2, d3] }
  | _ => none }
def FnAppendNewSplitsOverConcatenationWrongFalsely : Prop := fnAppendNewSplitsOverConcatenationRow.holds Try.pinned (OpenSpec.ofChange fnAppendNewSplitsOverConcatenationWrong)

/-- 'zzlaws_policy_b1.FnContainsAnyMatchesPairSearch': WHATEVER THE INPUT: true; the input reads as it did. -/
def fnContainsAnyMatchesPairSearchSpec : ChangeSpec := { name := "fnContainsAnyMatchesPairSearch", fn := fun _ => fun
  | [d1, d2] => { results := [.lit (.bool true)], args := [d1, d2] }
  | _ => none }
def fnContainsAnyMatchesPairSearchRow : OpenClaim := { program := "qxb6601884a", sum := "1301b877aaaa00ec1aac5a579f0317202630b0f461881a50b78721f8093de5f5", func := "example.com/portcullis/portcullis/zzlaws_policy_b1.FnContainsAnyMatchesPairSearch", spec := "fnContainsAnyMatchesPairSearch", apart := false }
def FnContainsAnyMatchesPairSearchSaid : Prop := fnContainsAnyMatchesPairSearchRow.holds Try.pinned (OpenSpec.ofChange fnContainsAnyMatchesPairSearchSpec)

/-- ITS FALSE NEIGHBOUR: 'it returns false'. Refute it at one input. -/
def fnContainsAnyMatchesPairSearchWrong : ChangeSpec := { name := "fnContainsAnyMatchesPairSearch", fn := fun _ => fun
  | [d1, d2] => { results := [.lit (.bool false)], args := [d1, d2] }
  | _ => none }
def FnContainsAnyMatchesPairSearchWrongFalsely : Prop := fnContainsAnyMatchesPairSearchRow.holds Try.pinned (OpenSpec.ofChange fnContainsAnyMatchesPairSearchWrong)

/-- 'zzlaws_policy_b1.FnContainsAnyIsSymmetric': WHATEVER THE INPUT: true; the input reads as it did. -/
def fnContainsAnyIsSymmetricSpec : ChangeSpec := { name := "fnContainsAnyIsSymmetric", fn := fun _ => fun
  | [d1, d2] => { results := [.lit (.bool true)], args := [d1, d2] }
  | _ => none }
def fnContainsAnyIsSymmetricRow : OpenClaim := { program := "qxb6601884a", sum := "1301b877aaaa00ec1aac5a579f0317202630b0f461881a50b78721f8093de5f5", func := "example.com/portcullis/portcullis/zzlaws_policy_b1.FnContainsAnyIsSymmetric", spec := "fnContainsAnyIsSymmetric", apart := false }
def FnContainsAnyIsSymmetricSaid : Prop := fnContainsAnyIsSymmetricRow.holds Try.pinned (OpenSpec.ofChange fnContainsAnyIsSymmetricSpec)

/-- ITS FALSE NEIGHBOUR: 'it returns false'. Refute it at one input. -/
def fnContainsAnyIsSymmetricWrong : ChangeSpec := { name := "fnContainsAnyIsSymmetric", fn := fun _ => fun
  | [d1, d2] => { results := [.lit (.bool false)], args := [d1, d2] }
  | _ => none }
def FnContainsAnyIsSymmetricWrongFalsely : Prop := fnContainsAnyIsSymmetricRow.holds Try.pinned (OpenSpec.ofChange fnContainsAnyIsSymmetricWrong)

/-- 'zzlaws_policy_b1.FnContainsAnyAgreesWithAppendNew': WHATEVER THE INPUT: true; the input reads as it did. -/
def fnContainsAnyAgreesWithAppendNewSpec : ChangeSpec := { name := "fnContainsAnyAgreesWithAppendNew", fn := fun _ => fun
  | [d1, d2] => { results := [.lit (.bool true)], args := [d1, d2] }
  | _ => none }
def fnContainsAnyAgreesWithAppendNewRow : OpenClaim := { program := "qxb6601884a", sum := "1301b877aaaa00ec1aac5a579f0317202630b0f461881a50b78721f8093de5f5", func := "example.com/portcullis/portcullis/zzlaws_policy_b1.FnContainsAnyAgreesWithAppendNew", spec := "fnContainsAnyAgreesWithAppendNew", apart := false }
def FnContainsAnyAgreesWithAppendNewSaid : Prop := fnContainsAnyAgreesWithAppendNewRow.holds Try.pinned (OpenSpec.ofChange fnContainsAnyAgreesWithAppendNewSpec)

/-- ITS FALSE NEIGHBOUR: 'it returns false'. Refute it at one input. -/
def fnContainsAnyAgreesWithAppendNewWrong : ChangeSpec := { name := "fnContainsAnyAgreesWithAppendNew", fn := fun _ => fun
  | [d1, d2] => { results := [.lit (.bool false)], args := [d1, d2] }
  | _ => none }
def FnContainsAnyAgreesWithAppendNewWrongFalsely : Prop := fnContainsAnyAgreesWithAppendNewRow.holds Try.pinned (OpenSpec.ofChange fnContainsAnyAgreesWithAppendNewWrong)

end Rows
end Go.Proofs.Qxb6601884a
