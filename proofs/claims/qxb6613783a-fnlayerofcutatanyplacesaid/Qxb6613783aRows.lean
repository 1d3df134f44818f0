/-
  No cell of these rows narrows 'for every input' (looked for: loops, veiled, ifaces, maps, wideKeys, modest, calm, conditions, laid).
  DERIVED. THE GIVEN ROWS OF THIS SEAT. 5 by the template 'for every input the law returns true; each argument reads behind the call as it read before'; 0 by the template 'total and deterministic' (their statements: Qxb6613783aTotals.lean).
  GIVEN WITH THE SEED: the statements are not yours to turn. If you find one false, say at which input.
  Laid BY PROGRAM, IN A SANDBOX (cutbox-rows.mjs): the forced cells as the released guide's own fill.sh prints them over the translation e066b9c1dc430837… (all of the seat's roots in one cut). By AI agents, Wed Nov 11 2026. No macro, syntax, notation, axiom, sorry.
-/
import Derived.Test.Qxb6613783aChecked
import GoSem.Claim
import GoSem.ClaimJoined
import GoSem.ClaimMapViews
import Derived.JoinedTies
import Derived.KernelRfl
namespace Go.Proofs.Qxb6613783a
/- THE CELL 'sum', in the pinned program and in every row, IS THE sha256 OF THE DUMP (.gsa) THAT Qxb6613783aProg.lean LOADS. Nothing in Lean hashes anything: it is a label: what it is worth is what the hold of that sum in a sandbox is worth. -/
noncomputable def Try.pinned : Pinned := { name := "qxb6613783a", sum := "e066b9c1dc430837463f21ddb846b6e9292189d618c4aa06af3a9878af3a6f1f", checked := Try.checked }
namespace Rows
def none {H : Type} : Left H := { results := [], args := [] }

/-- 'zzlaws_pkg_object_b1.FnTagsAnswersAFreshSlice': WHATEVER THE INPUT: true; the input reads as it did. -/
def fnTagsAnswersAFreshSliceSpec : ChangeSpec := { name := "fnTagsAnswersAFreshSlice", fn := fun _ => fun
  | [d] => { results := [.lit (.bool true)], args := [d] }
  | _ => none }
def fnTagsAnswersAFreshSliceRow : OpenClaim := { program := "qxb6613783a", sum := "e066b9c1dc430837463f21ddb846b6e9292189d618c4aa06af3a9878af3a6f1f", func := "example.com/cadastra/cadastra/zzlaws_pkg_object_b1.FnTagsAnswersAFreshSlice", spec := "fnTagsAnswersAFreshSlice", unfollowed := true, recurses := true, apart := false }
def FnTagsAnswersAFreshSliceSaid : Prop := fnTagsAnswersAFreshSliceRow.holds Try.pinned (OpenSpec.ofChange fnTagsAnswersAFreshSliceSpec)

/-- ITS FALSE NEIGHBOUR: 'it returns false'. Refute it at one input. -/
def fnTagsAnswersAFreshSliceWrong : ChangeSpec := { name := "fnTagsAnswersAFreshSlice", fn := fun _ => fun
  | [d] => { results := [.lit (.bool false)], args := [d] }
  | _ => none }
def FnTagsAnswersAFreshSliceWrongFalsely : Prop := fnTagsAnswersAFreshSliceRow.holds Try.pinned (OpenSpec.ofChange fnTagsAnswersAFreshSliceWrong)

/-- 'zzlaws_pkg_object_b1.FnIDTextAgreesWithString': WHATEVER THE INPUT: true; the input reads as it did. -/
def fnIDTextAgreesWithStringSpec : ChangeSpec := { name := "fnIDTextAgreesWithString", fn := fun _ => fun
  | [d] => { results := [.lit (.bool true)], args := [d] }
  | _ => none }
def fnIDTextAgreesWithStringRow : OpenClaim := { program := "qxb6613783a", sum := "e066b9c1dc430837463f21ddb846b6e9292189d618c4aa06af3a9878af3a6f1f", func := "example.com/cadastra/cadastra/zzlaws_pkg_object_b1.FnIDTextAgreesWithString", spec := "fnIDTextAgreesWithString", apart := false }
def FnIDTextAgreesWithStringSaid : Prop := fnIDTextAgreesWithStringRow.holds Try.pinned (OpenSpec.ofChange fnIDTextAgreesWithStringSpec)

/-- ITS FALSE NEIGHBOUR: 'it returns false'. Refute it at one input. -/
def fnIDTextAgreesWithStringWrong : ChangeSpec := { name := "fnIDTextAgreesWithString", fn := fun _ => fun
  | [d] => { results := [.lit (.bool false)], args := [d] }
  | _ => none }
def FnIDTextAgreesWithStringWrongFalsely : Prop := fnIDTextAgreesWithStringRow.holds Try.pinned (OpenSpec.ofChange fnIDTextAgreesWithStringWrong)

/-- 'zzlaws_pkg_object_b1.FnIDStringKeepsByteOrder': WHATEVER THE INPUT: true; the input reads as it did. -/
def fnIDStringKeepsByteOrderSpec : ChangeSpec := { name := "fnIDStringKeepsByteOrder", fn := fun _ => fun
  | [d1, d2] => { results := [.lit (.bool true)], args := [d1, d2] }
  | _ => none }
def fnIDStringKeepsByteOrderRow : OpenClaim := { program := "qxb6613783a", sum := "e066b9c1dc430837463f21ddb846b6e9292189d618c4aa06af3a9878af3a6f1f", func := "example.com/cadastra/cadastra/zzlaws_pkg_object_b1.FnIDStringKeepsByteOrder", spec := "fnIDStringKeepsByteOrder", apart := false }
def FnIDStringKeepsByteOrderSaid : Prop := fnIDStringKeepsByteOrderRow.holds Try.pinned (OpenSpec.ofChange fnIDStringKeepsByteOrderSpec)

/-- ITS FALSE NEIGHBOUR: 'it returns false'. Refute it at one input. -/
def fnIDStringKeepsByteOrderWrong : ChangeSpec := { name := "fnIDStringKeepsByteOrder", fn := fun _ => fun
  | [d1, d2] => { results := [.lit (.bool false)], args := [d1, d2] }
  | _ => none }
def FnIDStringKeepsByteOrderWrongFalsely : Prop := fnIDStringKeepsByteOrderRow.holds Try.pinned (OpenSpec.ofChange fnIDStringKeepsByteOrderWrong)

/-- 'zzlaws_pkg_object_b1.FnIDMarshalTextFreshAndDecodes': WHATEVER THE INPUT: true; the input reads as it did. -/
def fnIDMarshalTextFreshAndDecodesSpec : ChangeSpec := { name := "fnIDMarshalTextFreshAndDecodes", fn := fun _ => fun
  | [d] => { results := [.lit (.bool true)], args := [d] }
  | _ => none }
def fnIDMarshalTextFreshAndDecodesRow : OpenClaim := { program := "qxb6613783a", sum := "e066b9c1dc430837463f21ddb846b6e9292189d618c4aa06af3a9878af3a6f1f", func := "example.com/cadastra/cadastra/zzlaws_pkg_object_b1.FnIDMarshalTextFreshAndDecodes", spec := "fnIDMarshalTextFreshAndDecodes", apart := false }
def FnIDMarshalTextFreshAndDecodesSaid : Prop := fnIDMarshalTextFreshAndDecodesRow.holds Try.pinned (OpenSpec.ofChange fnIDMarshalTextFreshAndDecodesSpec)

/-- ITS FALSE NEIGHBOUR: 'it returns false'. Refute it at one input. -/
def fnIDMarshalTextFreshAndDecodesWrong : ChangeSpec := { name := "fnIDMarshalTextFreshAndDecodes", fn := fun _ => fun
  | [d] => { results := [.lit (.bool false)], args := [d] }
  | _ => none }
def FnIDMarshalTextFreshAndDecodesWrongFalsely : Prop := fnIDMarshalTextFreshAndDecodesRow.holds Try.pinned (OpenSpec.ofChange fnIDMarshalTextFreshAndDecodesWrong)

/-- 'zzlaws_pkg_object_b1.FnLayerOfCutAtAnyPlace': WHATEVER THE INPUT: true; the input reads as it did. -/
def fnLayerOfCutAtAnyPlaceSpec : ChangeSpec := { name := "fnLayerOfCutAtAnyPlace", fn := fun _ => fun
  | [d1, d2, d3, d4] => { results := [.lit (.bool true)], args := [d1, d2, d3, d4] }
  | _ => none }
def fnLayerOfCutAtAnyPlaceRow : OpenClaim := { program := "qxb6613783a", sum := "e066b9c1dc430837463f21ddb846b6e9292189d618c4aa06af3a9878af3a6f1f", func := "example.com/cadastra/cadastra/zzlaws_pkg_object_b1.FnLayerOfCutAtAnyPlace", spec := "fnLayerOfCutAtAnyPlace", unfollowed := true, recurses := true, apart := false }
def FnLayerOfCutAtAnyPlaceSaid : Prop := fnLayerOfCutAtAnyPlaceRow.holds Try.pinned (OpenSpec.ofChange fnLayerOfCutAtAnyPlaceSpec)

/-- ITS FALSE NEIGHBOUR: 'it returns false'. Refute it at one input. -/
def fnLayerOfCutAtAnyPlaceWrong : ChangeSpec := { name := "fnLayerOfCutAtAnyPlace", fn := fun _ => fun
  | [d1, d2, d3, d4] => { results := [.lit (.bool false)], args := [d1, d2, d3, d4] }
  | _ => none }
def FnLayerOfCutAtAnyPlaceWrongFalsely : Prop := fnLayerOfCutAtAnyPlaceRow.holds Try.pinned (OpenSpec.ofChange fnLayerOfCutAtAnyPlaceWrong)

end Rows
end Go.Proofs.Qxb6613783a
