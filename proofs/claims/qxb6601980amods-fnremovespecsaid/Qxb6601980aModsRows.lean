/-
  No cell of these rows narrows 'for every input' (looked for: loops, veiled, ifaces, maps, wideKeys, modest, calm, conditions, laid).
  DERIVED. THE GIVEN ROWS OF THIS SEAT. 6 by the template 'for every input the law returns true; each argument reads behind the call as it read before'; 0 by the template 'total and deterministic' (their statements: Qxb6601980aModsTotals.lean).
  GIVEN WITH THE SEED: the statements are not yours to turn. If you find one false, say at which input.
  Laid BY PROGRAM, IN A SANDBOX (cutbox-rows.mjs): the forced cells as the released guide's own fill.sh prints them over the translation 03b590784ad62996… (all of the seat's roots in one cut). By AI agents, Wed Nov 11 2026. No macro, syntax, notation, axiom, sorry.
-/
import Derived.Test.Qxb6601980aModsChecked
import GoSem.Claim
import GoSem.ClaimJoined
import GoSem.ClaimMapViews
import Derived.JoinedTies
import Derived.KernelRfl
namespace Go.Proofs.Qxb6601980aMods
/- THE CELL 'sum', in the pinned program and in every row, IS THE sha256 OF THE DUMP (.gsa) THAT Qxb6601980aModsProg.lean LOADS. Nothing in Lean hashes anything: it is a label: what it is worth is what the hold of that sum in a sandbox is worth. -/
noncomputable def Trym.pinned : Pinned := { name := "qxb6601980amods", sum := "03b590784ad62996f920bfc49c86a10080da9fe9567f5dee28d85824275fcc91", checked := Trym.checked }
namespace Rows
def none {H : Type} : Left H := { results := [], args := [] }

/-- 'zzlaws_internal_engine_b1.FnBatchSizeConcat': WHATEVER THE INPUT: true; the input reads as it did. -/
def fnBatchSizeConcatSpec : ChangeSpec := { name := "fnBatchSizeConcat", fn := fun _ => fun
  | [d1, d2] => { results := [.lit (.bool true)], args := [d1, d2] }
  | _ => none }
def fnBatchSizeConcatRow : OpenClaim := { program := "qxb6601980amods", sum := "03b590784ad62996f920bfc49c86a10080da9fe9567f5dee28d85824275fcc91", func := "example.com/untimed/untimed/zzlaws_internal_engine_b1.FnBatchSizeConcat", spec := "fnBatchSizeConcat", plainKeys := false, make := .lifted ["publicsums"], apart := false }
def FnBatchSizeConcatSaid : Prop := fnBatchSizeConcatRow.holds Trym.pinned (OpenSpec.ofChange fnBatchSizeConcatSpec)

/-- ITS FALSE NEIGHBOUR: 'it returns false'. Refute it at one input. -/
def fnBatchSizeConcatWrong : ChangeSpec := { name := "fnBatchSizeConcat", fn := fun _ => fun
  | [d1, d2] => { results := [.lit (.bool false)], args := [d1, d2] }
  | _ => none }
def FnBatchSizeConcatWrongFalsely : Prop := fnBatchSizeConcatRow.holds Trym.pinned (OpenSpec.ofChange fnBatchSizeConcatWrong)

/-- 'zzlaws_internal_engine_b1.FnPackSpec': WHATEVER THE INPUT: true; the input reads as it did. -/
def fnPackSpecSpec : ChangeSpec := { name := "fnPackSpec", fn := fun _ => fun
  | [d1, d2, d3, d4, d5] => { results := [.lit (.bool true)], args := [d1, d2, d3, d4, d5] }
  | _ => none }
def fnPackSpecRow : OpenClaim := { program := "qxb6601980amods", sum := "03b590784ad62996f920bfc49c86a10080da9fe9567f5dee28d85824275fcc91", func := "example.com/untimed/untimed/zzlaws_internal_engine_b1.FnPackSpec", spec := "fnPackSpec", plainKeys := false, make := .lifted ["publicsums"], apart := false }
def FnPackSpecSaid : Prop := fnPackSpecRow.holds Trym.pinned (OpenSpec.ofChange fnPackSpecSpec)

/-- ITS FALSE NEIGHBOUR: 'it returns false'. Refute it at one input. -/
def fnPackSpecWrong : ChangeSpec := { name := "fnPackSpec", fn := fun _ => fun
  | [d1, d2, d3, d4, d5] => { results := [.lit (.bool false)], args := [d1, d2, d3, d4, d5] }
  | _ => none }
def FnPackSpecWrongFalsely : Prop := fnPackSpecRow.holds Trym.pinned (OpenSpec.ofChange fnPackSpecWrong)

/-- 'zzlaws_internal_engine_b1.FnPackWindowInvariant': WHATEVER THE INPUT: true; the input reads as it did. -/
def fnPackWindowInvariantSpec : ChangeSpec := { name := "fnPackWindowInvariant", fn := fun _ => fun
  | [d1, d2, d3, d4, d5] => { results := [.lit (.bool true)], args := [d1, d2, d3, d4, d5] }
  | _ => none }
def fnPackWindowInvariantRow : OpenClaim := { program := "qxb6601980amods", sum := "03b590784ad62996f920bfc49c86a10080da9fe9567f5dee28d85824275fcc91", func := "example.com/untimed/untimed/zzlaws_internal_engine_b1.FnPackWindowInvariant", spec := "fnPackWindowInvariant", plainKeys := false, make := .lifted ["publicsums"], apart := false }
def FnPackWindowInvariantSaid : Prop := fnPackWindowInvariantRow.holds Trym.pinned (OpenSpec.ofChange fnPackWindowInvariantSpec)

/-- ITS FALSE NEIGHBOUR: 'it returns false'. Refute it at one input. -/
def fnPackWindowInvariantWrong : ChangeSpec := { name := "fnPackWindowInvariant", fn := fun _ => fun
  | [d1, d2, d3, d4, d5] => { results := [.lit (.bool false)], args := [d1, d2, d3, d4, d5] }
  | _ => none }
def FnPackWindowInvariantWrongFalsely : Prop := fnPackWindowInvariantRow.holds Trym.pinned (OpenSpec.ofChange fnPackWindowInvariantWrong)

/-- 'zzlaws_internal_engine_b1.FnPackIdempotent': WHATEVER THE INPUT: true; the input reads as it did. -/
def fnPackIdempotentSpec : ChangeSpec := { name := "fnPackIdempotent", fn := fun _ => fun
  | [d1, d2, d3, d4, d5] => { results := [.lit (.bool true)], args := [d1, d2, d3, d4, d5] }
  | _ => none }
def fnPackIdempotentRow : OpenClaim := { program := "qxb6601980amods", sum := "03b590784ad62996f920bfc49c86a10080da9fe9567f5dee28d85824275fcc91", func := "example.com/untimed/untimed/zzlaws_internal_engine_b1.FnPackIdempotent", spec := "fnPackIdempotent", plainKeys := false, make := .lifted ["publicsums"], apart := false }
def FnPackIdempotentSaid : Prop := fnPackIdempotentRow.holds Trym.pinned (OpenSpec.ofChange fnPackIdempotentSpec)

/-- ITS FALSE NEIGHBOUR: 'it returns false'. Refute it at one input. -/
def fnPackIdempotentWrong : ChangeSpec := { name := "fnPackIdempotent", fn := fun _ => fun
  | [d1, d2, d3, d4, d5] => { results := [.lit (.bool false)], args := [d1, d2, d3, d4, d5] }
  | _ => none }
def FnPackIdempotentWrongFalsely : Prop := fnPackIdempotentRow.holds Trym.pinned (OpenSpec.ofChange fnPackIdempotentWrong)

/-- 'zzlaws_internal_engine_b1.FnRemoveSpec': WHATEVER THE INPUT: true; the input reads as it did. -/
def fnRemoveSpecSpec : ChangeSpec := { name := "fnRemoveSpec", fn := fun _ => fun
  | [d1, d2, d3, d4, d5, d6] => { results := [.lit (.bool true)], args := [d1, d2, d3, d4, d5, d6] }
  | _ => none }
def fnRemoveSpecRow : OpenClaim := { program := "qxb6601980amods", sum := "03b590784ad62996f920bfc49c86a10080da9fe9567f5dee28d85824275fcc91", func := "example.com/untimed/untimed/zzlaws_internal_engine_b1.FnRemoveSpec", spec := "fnRemoveSpec", plainKeys := false, make := .lifted ["publicsums"], apart := false }
def FnRemoveSpecSaid : Prop := fnRemoveSpecRow.holds Trym.pinned (OpenSpec.ofChange fnRemoveSpecSpec)

/-- ITS FALSE NEIGHBOUR: 'it returns false'. Refute it at one input. -/
def fnRemoveSpecWrong : ChangeSpec := { name := "fnRemoveSpec", fn := fun _ => fun
  | [d1, d2, d3, d4, d5, d6] => { results := [.lit (.bool false)], args := [d1, d2, d3, d4, d5, d6] }
  | _ => none }
def FnRemoveSpecWrongFalsely : Prop := fnRemoveSpecRow.holds Trym.pinned (OpenSpec.ofChange fnRemoveSpecWrong)

/-- 'zzlaws_internal_engine_b1.FnRemoveSplitAgrees': WHATEVER THE INPUT: true; the input reads as it did. -/
def fnRemoveSplitAgreesSpec : ChangeSpec := { name := "fnRemoveSplitAgrees", fn := fun _ => fun
  | [d1, d2, d3, d4, d5, d6, d7] => { results := [.lit (.bool true)], args := [d1, d2, d3, d4, d5, d6, d7] }
  | _ => none }
def fnRemoveSplitAgreesRow : OpenClaim := { program := "qxb6601980amods", sum := "03b590784ad62996f920bfc49c86a10080da9fe9567f5dee28d85824275fcc91", func := "example.com/untimed/untimed/zzlaws_internal_engine_b1.FnRemoveSplitAgrees", spec := "fnRemoveSplitAgrees", plainKeys := false, make := .lifted ["publicsums"], apart := false }
def FnRemoveSplitAgreesSaid : Prop := fnRemoveSplitAgreesRow.holds Trym.pinned (OpenSpec.ofChange fnRemoveSplitAgreesSpec)

/-- ITS FALSE NEIGHBOUR: 'it returns false'. Refute it at one input. -/
def fnRemoveSplitAgreesWrong : ChangeSpec := { name := "fnRemoveSplitAgrees", fn := fun _ => fun
  | [d1, d2, d3, d4, d5, d6, d7] => { results := [.lit (.bool false)], args := [d1, d2, d3, d4, d5, d6, d7] }
  | _ => none }
def FnRemoveSplitAgreesWrongFalsely : Prop := fnRemoveSplitAgreesRow.holds Trym.pinned (OpenSpec.ofChange fnRemoveSplitAgreesWrong)

end Rows
end Go.Proofs.Qxb6601980aMods
