/-
  No cell of these rows narrows 'for every input' (looked for: loops, veiled, ifaces, maps, wideKeys, modest, calm, conditions, laid).
  DERIVED. THE GIVEN ROWS OF THIS SEAT. 4 by the template 'for every input the law returns true; each argument reads behind the call as it read before'; 0 by the template 'total and deterministic' (their statements: Qxb6600877aModsTotals.lean).
  GIVEN WITH THE SEED: the statements are not yours to turn. If you find one false, say at which input.
  Laid BY PROGRAM, IN A SANDBOX (cutbox-rows.mjs): the forced cells as the released guide's own fill.sh prints them over the translation 5f3f0a1ad02faefb… (all of the seat's roots in one cut). By AI agents, Wed Nov 11 2026. No macro, syntax, notation, axiom, sorry.
-/
import Derived.Test.Qxb6600877aModsChecked
import GoSem.Claim
import GoSem.ClaimJoined
import GoSem.ClaimMapViews
import Derived.JoinedTies
import Derived.KernelRfl
namespace Go.Proofs.Qxb6600877aMods
/- THE CELL 'sum', in the pinned program and in every row, IS THE sha256 OF THE DUMP (.gsa) THAT Qxb6600877aModsProg.lean LOADS. Nothing in Lean hashes anything: it is a label: what it is worth is what the hold of that sum in a sandbox is worth. -/
noncomputable def Trym.pinned : Pinned := { name := "qxb6600877amods", sum := "5f3f0a1ad02faefb5e85b4ccbac9a6438aea06e107a8c0f07c62ad0beb466537", checked := Trym.checked }
namespace Rows
def none {H : Type} : Left H := { results := [], args := [] }

/-- 'zzlaws_internal_store_b1.FnSameRefsIsEqualityOfEncodings': WHATEVER THE INPUT: true; the input reads as it did. -/
def fnSameRefsIsEqualityOfEncodingsSpec : ChangeSpec := { name := "fnSameRefsIsEqualityOfEncodings", fn := fun _ => fun
  | [d1, d2, d3, d4] => { results := [.lit (.bool true)], args := [d1, d2, d3, d4] }
  | _ => none }
def fnSameRefsIsEqualityOfEncodingsRow : OpenClaim := { program := "qxb6600877amods", sum := "5f3f0a1ad02faefb5e85b4ccbac9a6438aea06e107a8c0f07c62ad0beb466537", func := "example.com/strict-schema/strict-schema/zzlaws_internal_store_b1.FnSameRefsIsEqualityOfEncodings", spec := "fnSameRefsIsEqualityOfEncodings", plainKeys := false, make := .lifted ["publicsums"], apart := false }
def FnSameRefsIsEqualityOfEncodingsSaid : Prop := fnSameRefsIsEqualityOfEncodingsRow.holds Trym.pinned (OpenSpec.ofChange fnSameRefsIsEqualityOfEncodingsSpec)

/-- ITS FALSE NEIGHBOUR: 'it returns false'. Refute it at one input. -/
def fnSameRefsIsEqualityOfEncodingsWrong : ChangeSpec := { name := "fnSameRefsIsEqualityOfEncodings", fn := fun _ => fun
  | [d1, d2, d3, d4] => { results := [.lit (.bool false)], args := [d1, d2, d3, d4] }
  | _ => none }
def FnSameRefsIsEqualityOfEncodingsWrongFalsely : Prop := fnSameRefsIsEqualityOfEncodingsRow.holds Trym.pinned (OpenSpec.ofChange fnSameRefsIsEqualityOfEncodingsWrong)

/-- 'zzlaws_internal_store_b1.FnSameRefsReflexiveAndSensitive': WHATEVER THE INPUT: true; the input reads as it did. -/
def fnSameRefsReflexiveAndSensitiveSpec : ChangeSpec := { name := "fnSameRefsReflexiveAndSensitive", fn := fun _ => fun
  | [d1, d2, d3, d4, d5] => { results := [.lit (.bool true)], args := [d1, d2, d3, d4, d5] }
  | _ => none }
def fnSameRefsReflexiveAndSensitiveRow : OpenClaim := { program := "qxb6600877amods", sum := "5f3f0a1ad02faefb5e85b4ccbac9a6438aea06e107a8c0f07c62ad0beb466537", func := "example.com/strict-schema/strict-schema/zzlaws_internal_store_b1.FnSameRefsReflexiveAndSensitive", spec := "fnSameRefsReflexiveAndSensitive", plainKeys := false, make := .lifted ["publicsums"], apart := false }
def FnSameRefsReflexiveAndSensitiveSaid : Prop := fnSameRefsReflexiveAndSensitiveRow.holds Trym.pinned (OpenSpec.ofChange fnSameRefsReflexiveAndSensitiveSpec)

/-- ITS FALSE NEIGHBOUR: 'it returns false'. Refute it at one input. -/
def fnSameRefsReflexiveAndSensitiveWrong : ChangeSpec := { name := "fnSameRefsReflexiveAndSensitive", fn := fun _ => fun
  | [d1, d2, d3, d4, d5] => { results := [.lit (.bool false)], args := [d1, d2, d3, d4, d5] }
  | _ => none }
def FnSameRefsReflexiveAndSensitiveWrongFalsely : Prop := fnSameRefsReflexiveAndSensitiveRow.holds Trym.pinned (OpenSpec.ofChange fnSameRefsReflexiveAndSensitiveWrong)

/-- 'zzlaws_internal_store_b1.FnLinkBuildsExactReverseIndex': WHATEVER THE INPUT: true; the input reads as it did. -/
def fnLinkBuildsExactReverseIndexSpec : ChangeSpec := { name := "fnLinkBuildsExactReverseIndex", fn := fun _ => fun
  | [d1, d2, d3, d4] => { results := [.lit (.bool true)], args := [d1, d2, d3, d4] }
  | _ => none }
def fnLinkBuildsExactReverseIndexRow : OpenClaim := { program := "qxb6600877amods", sum := "5f3f0a1ad02faefb5e85b4ccbac9a6438aea06e107a8c0f07c62ad0beb466537", func := "example.com/strict-schema/strict-schema/zzlaws_internal_store_b1.FnLinkBuildsExactReverseIndex", spec := "fnLinkBuildsExactReverseIndex", plainKeys := false, make := .lifted ["publicsums"], apart := false }
def FnLinkBuildsExactReverseIndexSaid : Prop := fnLinkBuildsExactReverseIndexRow.holds Trym.pinned (OpenSpec.ofChange fnLinkBuildsExactReverseIndexSpec)

/-- ITS FALSE NEIGHBOUR: 'it returns false'. Refute it at one input. -/
def fnLinkBuildsExactReverseIndexWrong : ChangeSpec := { name := "fnLinkBuildsExactReverseIndex", fn := fun _ => fun
  | [d1, d2, d3, d4] => { results := [.lit (.bool false)], args := [d1, d2, d3, d4] }
  | _ => none }
def FnLinkBuildsExactReverseIndexWrongFalsely : Prop := fnLinkBuildsExactReverseIndexRow.holds Trym.pinned (OpenSpec.ofChange fnLinkBuildsExactReverseIndexWrong)

/-- 'zzlaws_internal_store_b1.FnLinkOrderSplitAndRepeatFree': WHATEVER THE INPUT: true; the input reads as it did. -/
def fnLinkOrderSplitAndRepeatFreeSpec : ChangeSpec := { name := "fnLinkOrderSplitAndRepeatFree", fn := fun _ => fun
  | [d1, d2, d3, d4] => { results := [.lit (.bool true)], args := [d1, d2, d3, d4] }
  | _ => none }
def fnLinkOrderSplitAndRepeatFreeRow : OpenClaim := { program := "qxb6600877amods", sum := "5f3f0a1ad02faefb5e85b4ccbac9a6438aea06e107a8c0f07c62ad0beb466537", func := "example.com/strict-schema/strict-schema/zzlaws_internal_store_b1.FnLinkOrderSplitAndRepeatFree", spec := "fnLinkOrderSplitAndRepeatFree", plainKeys := false, make := .lifted ["publicsums"], apart := false }
def FnLinkOrderSplitAndRepeatFreeSaid : Prop := fnLinkOrderSplitAndRepeatFreeRow.holds Trym.pinned (OpenSpec.ofChange fnLinkOrderSplitAndRepeatFreeSpec)

/-- ITS FALSE NEIGHBOUR: 'it returns false'. Refute it at one input. -/
def fnLinkOrderSplitAndRepeatFreeWrong : ChangeSpec := { name := "fnLinkOrderSplitAndRepeatFree", fn := fun _ => fun
  | [d1, d2, d3, d4] => { results := [.lit (.bool false)], args := [d1, d2, d3, d4] }
  | _ => none }
def FnLinkOrderSplitAndRepeatFreeWrongFalsely : Prop := fnLinkOrderSplitAndRepeatFreeRow.holds Trym.pinned (OpenSpec.ofChange fnLinkOrderSplitAndRepeatFreeWrong)

end Rows
end Go.Proofs.Qxb6600877aMods
