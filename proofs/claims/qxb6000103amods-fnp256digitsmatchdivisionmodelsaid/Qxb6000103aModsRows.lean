/-
  No cell of these rows narrows 'for every input' (looked for: loops, veiled, ifaces, maps, wideKeys, modest, calm, conditions, laid).
  DERIVED. THE GIVEN ROWS OF THIS SEAT. 5 by the template 'for every input the law returns true; each argument reads behind the call as it read before'; 0 by the template 'total and deterministic' (their statements: Qxb6000103aModsTotals.lean).
  GIVEN WITH THE SEED: the statements are not yours to turn. If you find one false, say at which input.
  Laid BY PROGRAM, IN A SANDBOX (cutbox-rows.mjs): the forced cells as the released guide's own fill.sh prints them over the translation 0b23ba8edff2620a… (all of the seat's roots in one cut). By AI agents, Wed Nov 11 2026. No macro, syntax, notation, axiom, sorry.
-/
import Derived.Test.Qxb6000103aModsChecked
import GoSem.Claim
import GoSem.ClaimJoined
import GoSem.ClaimMapViews
import Derived.JoinedTies
import Derived.KernelRfl
namespace Go.Proofs.Qxb6000103aMods
/- THE CELL 'sum', in the pinned program and in every row, IS THE sha256 OF THE DUMP (.gsa) THAT Qxb6000103aModsProg.lean LOADS. Nothing in Lean hashes anything: it is a label: what it is worth is what the hold of that sum in a sandbox is worth. -/
noncomputable def Trym.pinned : Pinned := { name := "qxb6000103amods", sum := "0b23ba8edff2620a456f608bd08bacb8437bdc1cab04635e7280756b3633dd03", checked := Trym.checked }
namespace Rows
def none {H : Type} : Left H := { results := [], args := [] }

/-- 'zzlaws_internal_dpop_b1.FnP256DigitsEvaluateBackToScalar': WHATEVER THE INPUT: true; the input reads as it did. -/
def fnP256DigitsEvaluateBackToScalarSpec : ChangeSpec := { name := "fnP256DigitsEvaluateBackToScalar", fn := fun _ => fun
  | [d] => { results := [.lit (.bool true)], args := [d] }
  | _ => none }
def fnP256DigitsEvaluateBackToScalarRow : OpenClaim := { program := "qxb6000103amods", sum := "0b23ba8edff2620a456f608bd08bacb8437bdc1cab04635e7280756b3633dd03", func := "example.com/holdfast/holdfast/zzlaws_internal_dpop_b1.FnP256DigitsEvaluateBackToScalar", spec := "fnP256DigitsEvaluateBackToScalar", make := .lifted ["publicsums"], apart := false }
def FnP256DigitsEvaluateBackToScalarSaid : Prop := fnP256DigitsEvaluateBackToScalarRow.holds Trym.pinned (OpenSpec.ofChange fnP256DigitsEvaluateBackToScalarSpec)

/-- ITS FALSE NEIGHBOUR: 'it returns false'. Refute it at one input. -/
def fnP256DigitsEvaluateBackToScalarWrong : ChangeSpec := { name := "fnP256DigitsEvaluateBackToScalar", fn := fun _ => fun
  | [d] => { results := [.lit (.bool false)], args := [d] }
  | _ => none }
def FnP256DigitsEvaluateBackToScalarWrongFalsely : Prop := fnP256DigitsEvaluateBackToScalarRow.holds Trym.pinned (OpenSpec.ofChange fnP256DigitsEvaluateBackToScalarWrong)

/-- 'zzlaws_internal_dpop_b1.FnP256DigitsMatchDivisionModel': WHATEVER THE INPUT: true; the input reads as it did. -/
def fnP256DigitsMatchDivisionModelSpec : ChangeSpec := { name := "fnP256DigitsMatchDivisionModel", fn := fun _ => fun
  | [d] => { results := [.lit (.bool true)], args := [d] }
  | _ => none }
def fnP256DigitsMatchDivisionModelRow : OpenClaim := { program := "qxb6000103amods", sum := "0b23ba8edff2620a456f608bd08bacb8437bdc1cab04635e7280756b3633dd03", func := "example.com/holdfast/holdfast/zzlaws_internal_dpop_b1.FnP256DigitsMatchDivisionModel", spec := "fnP256DigitsMatchDivisionModel", make := .lifted ["publicsums"], apart := false }
def FnP256DigitsMatchDivisionModelSaid : Prop := fnP256DigitsMatchDivisionModelRow.holds Trym.pinned (OpenSpec.ofChange fnP256DigitsMatchDivisionModelSpec)

/-- ITS FALSE NEIGHBOUR: 'it returns false'. Refute it at one input. -/
def fnP256DigitsMatchDivisionModelWrong : ChangeSpec := { name := "fnP256DigitsMatchDivisionModel", fn := fun _ => fun
  | [d] => { results := [.lit (.bool false)], args := [d] }
  | _ => none }
def FnP256DigitsMatchDivisionModelWrongFalsely : Prop := fnP256DigitsMatchDivisionModelRow.holds Trym.pinned (OpenSpec.ofChange fnP256DigitsMatchDivisionModelWrong)

/-- 'zzlaws_internal_dpop_b1.FnRemoveDotSegmentsMatchesStackModel': WHATEVER THE INPUT: true; the input reads as it did. -/
def fnRemoveDotSegmentsMatchesStackModelSpec : ChangeSpec := { name := "fnRemoveDotSegmentsMatchesStackModel", fn := fun _ => fun
  | [d] => { results := [.lit (.bool true)], args := [d] }
  | _ => none }
def fnRemoveDotSegmentsMatchesStackModelRow : OpenClaim := { program := "qxb6000103amods", sum := "0b23ba8edff2620a456f608bd08bacb8437bdc1cab04635e7280756b3633dd03", func := "example.com/holdfast/holdfast/zzlaws_internal_dpop_b1.FnRemoveDotSegmentsMatchesStackModel", spec := "fnRemoveDotSegmentsMatchesStackModel", inPlace := ["internal/bytealg.IndexByteString", "internal/abi.NoEscape", "internal/bytealg.MakeNoZero"], make := .lifted ["publicsums"], apart := false }
def FnRemoveDotSegmentsMatchesStackModelSaid : Prop := fnRemoveDotSegmentsMatchesStackModelRow.holds Trym.pinned (OpenSpec.ofChange fnRemoveDotSegmentsMatchesStackModelSpec)

/-- ITS FALSE NEIGHBOUR: 'it returns false'. Refute it at one input. -/
def fnRemoveDotSegmentsMatchesStackModelWrong : ChangeSpec := { name := "fnRemoveDotSegmentsMatchesStackModel", fn := fun _ => fun
  | [d] => { results := [.lit (.bool false)], args := [d] }
  | _ => none }
def FnRemoveDotSegmentsMatchesStackModelWrongFalsely : Prop := fnRemoveDotSegmentsMatchesStackModelRow.holds Trym.pinned (OpenSpec.ofChange fnRemoveDotSegmentsMatchesStackModelWrong)

/-- 'zzlaws_internal_dpop_b1.FnRemoveDotSegmentsIdempotent': WHATEVER THE INPUT: true; the input reads as it did. -/
def fnRemoveDotSegmentsIdempotentSpec : ChangeSpec := { name := "fnRemoveDotSegmentsIdempotent", fn := fun _ => fun
  | [d] => { results := [.lit (.bool true)], args := [d] }
  | _ => none }
def fnRemoveDotSegmentsIdempotentRow : OpenClaim := { program := "qxb6000103amods", sum := "0b23ba8edff2620a456f608bd08bacb8437bdc1cab04635e7280756b3633dd03", func := "example.com/holdfast/holdfast/zzlaws_internal_dpop_b1.FnRemoveDotSegmentsIdempotent", spec := "fnRemoveDotSegmentsIdempotent", inPlace := ["internal/bytealg.IndexByteString", "internal/abi.NoEscape", "internal/bytealg.MakeNoZero"], make := .lifted ["publicsums"], apart := false }
def FnRemoveDotSegmentsIdempotentSaid : Prop := fnRemoveDotSegmentsIdempotentRow.holds Trym.pinned (OpenSpec.ofChange fnRemoveDotSegmentsIdempotentSpec)

/-- ITS FALSE NEIGHBOUR: 'it returns false'. Refute it at one input. -/
def fnRemoveDotSegmentsIdempotentWrong : ChangeSpec := { name := "fnRemoveDotSegmentsIdempotent", fn := fun _ => fun
  | [d] => { results := [.lit (.bool false)], args := [d] }
  | _ => none }
def FnRemoveDotSegmentsIdempotentWrongFalsely : Prop := fnRemoveDotSegmentsIdempotentRow.holds Trym.pinned (OpenSpec.ofChange fnRemoveDotSegmentsIdempotentWrong)

/-- 'zzlaws_internal_dpop_b1.FnRemoveDotSegmentsShape': WHATEVER THE INPUT: true; the input reads as it did. -/
def fnRemoveDotSegmentsShapeSpec : ChangeSpec := { name := "fnRemoveDotSegmentsShape", fn := fun _ => fun
  | [d] => { results := [.lit (.bool true)], args := [d] }
  | _ => none }
def fnRemoveDotSegmentsShapeRow : OpenClaim := { program := "qxb6000103amods", sum := "0b23ba8edff2620a456f608bd08bacb8437bdc1cab04635e7280756b3633dd03", func := "example.com/holdfast/holdfast/zzlaws_internal_dpop_b1.FnRemoveDotSegmentsShape", spec := "fnRemoveDotSegmentsShape", inPlace := ["internal/bytealg.IndexByteString", "internal/abi.NoEscape", "internal/bytealg.MakeNoZero"], make := .lifted ["publicsums"], apart := false }
def FnRemoveDotSegmentsShapeSaid : Prop := fnRemoveDotSegmentsShapeRow.holds Trym.pinned (OpenSpec.ofChange fnRemoveDotSegmentsShapeSpec)

/-- ITS FALSE NEIGHBOUR: 'it returns false'. Refute it at one input. -/
def fnRemoveDotSegmentsShapeWrong : ChangeSpec := { name := "fnRemoveDotSegmentsShape", fn := fun _ => fun
  | [d] => { results := [.lit (.bool false)], args := [d] }
  | _ => none }
def FnRemoveDotSegmentsShapeWrongFalsely : Prop := fnRemoveDotSegmentsShapeRow.holds Trym.pinned (OpenSpec.ofChange fnRemoveDotSegmentsShapeWrong)

end Rows
end Go.Proofs.Qxb6000103aMods
