/-
  No cell of these rows narrows 'for every input' (looked for: loops, veiled, ifaces, maps, wideKeys, modest, calm, conditions, laid).
  DERIVED. THE GIVEN ROWS OF THIS SEAT. 6 by the template 'for every input the law returns true; each argument reads behind the call as it read before'; 0 by the template 'total and deterministic' (their statements: Qxb6613004aTotals.lean).
  GIVEN WITH THE SEED: the statements are not yours to turn. If you find one false, say at which input.
  Laid BY PROGRAM, IN A SANDBOX (cutbox-rows.mjs): the forced cells as the released guide's own fill.sh prints them over the translation cffcae99b5ce88cc… (all of the seat's roots in one cut). By AI agents, Wed Nov 11 2026. No macro, syntax, notation, axiom, sorry.
-/
import Derived.Test.Qxb6613004aChecked
import GoSem.Claim
import GoSem.ClaimJoined
import GoSem.ClaimMapViews
import Derived.JoinedTies
import Derived.KernelRfl
namespace Go.Proofs.Qxb6613004a
/- THE CELL 'sum', in the pinned program and in every row, IS THE sha256 OF THE DUMP (.gsa) THAT Qxb6613004aProg.lean LOADS. Nothing in Lean hashes anything: it is a label: what it is worth is what the hold of that sum in a sandbox is worth. -/
noncomputable def Try.pinned : Pinned := { name := "qxb6613004a", sum := "cffcae99b5ce88ccdf98bca4ecece4e704b0db8a21a38caaed9b0d856ff70941", checked := Try.checked }
namespace Rows
def none {H : Type} : Left H := { results := [], args := [] }

/-- 'zzlaws_internal_charset_b1.FnLeadingRunCutAndExact': WHATEVER THE INPUT: true; the input reads as it did. -/
def fnLeadingRunCutAndExactSpec : ChangeSpec := { name := "fnLeadingRunCutAndExact", fn := fun _ => fun
  | [d1, d2, d3] => { results := [.lit (.bool true)], args := [d1, d2, d3] }
  | _ => none }
def fnLeadingRunCutAndExactRow : OpenClaim := { program := "qxb6613004a", sum := "cffcae99b5ce88ccdf98bca4ecece4e704b0db8a21a38caaed9b0d856ff70941", func := "example.com/verdict/verdict/zzlaws_internal_charset_b1.FnLeadingRunCutAndExact", spec := "fnLeadingRunCutAndExact", unfollowed := true, recurses := true, apart := false }
def FnLeadingRunCutAndExactSaid : Prop := fnLeadingRunCutAndExactRow.holds Try.pinned (OpenSpec.ofChange fnLeadingRunCutAndExactSpec)

/-- ITS FALSE NEIGHBOUR: 'it returns false'. Refute it at one input. -/
def fnLeadingRunCutAndExactWrong : ChangeSpec := { name := "fnLeadingRunCutAndExact", fn := fun _ => fun
  | [d1, d2, d3] => { results := [.lit (.bool false)], args := [d1, d2, d3] }
  | _ => none }
def FnLeadingRunCutAndExactWrongFalsely : Prop := fnLeadingRunCutAndExactRow.holds Try.pinned (OpenSpec.ofChange fnLeadingRunCutAndExactWrong)

/-- 'zzlaws_internal_charset_b1.FnLeadingRunAlternatingRunsTile': WHATEVER THE INPUT: true; the input reads as it did. -/
def fnLeadingRunAlternatingRunsTileSpec : ChangeSpec := { name := "fnLeadingRunAlternatingRunsTile", fn := fun _ => fun
  | [d1, d2] => { results := [.lit (.bool true)], args := [d1, d2] }
  | _ => none }
def fnLeadingRunAlternatingRunsTileRow : OpenClaim := { program := "qxb6613004a", sum := "cffcae99b5ce88ccdf98bca4ecece4e704b0db8a21a38caaed9b0d856ff70941", func := "example.com/verdict/verdict/zzlaws_internal_charset_b1.FnLeadingRunAlternatingRunsTile", spec := "fnLeadingRunAlternatingRunsTile", unfollowed := true, recurses := true, apart := false }
def FnLeadingRunAlternatingRunsTileSaid : Prop := fnLeadingRunAlternatingRunsTileRow.holds Try.pinned (OpenSpec.ofChange fnLeadingRunAlternatingRunsTileSpec)

/-- ITS FALSE NEIGHBOUR: 'it returns false'. Refute it at one input. -/
def fnLeadingRunAlternatingRunsTileWrong : ChangeSpec := { name := "fnLeadingRunAlternatingRunsTile", fn := fun _ => fun
  | [d1, d2] => { results := [.lit (.bool false)], args := [d1, d2] }
  | _ => none }
def FnLeadingRunAlternatingRunsTileWrongFalsely : Prop := fnLeadingRunAlternatingRunsTileRow.holds Try.pinned (OpenSpec.ofChange fnLeadingRunAlternatingRunsTileWrong)

/-- 'zzlaws_internal_charset_b1.FnIsPlainTermCutAndExact': WHATEVER THE INPUT: true; the input reads as it did. -/
def fnIsPlainTermCutAndExactSpec : ChangeSpec := { name := "fnIsPlainTermCutAndExact", fn := fun _ => fun
  | [d1, d2] => { results := [.lit (.bool true)], args := [d1, d2] }
  | _ => none }
def fnIsPlainTermCutAndExactRow : OpenClaim := { program := "qxb6613004a", sum := "cffcae99b5ce88ccdf98bca4ecece4e704b0db8a21a38caaed9b0d856ff70941", func := "example.com/verdict/verdict/zzlaws_internal_charset_b1.FnIsPlainTermCutAndExact", spec := "fnIsPlainTermCutAndExact", apart := false }
def FnIsPlainTermCutAndExactSaid : Prop := fnIsPlainTermCutAndExactRow.holds Try.pinned (OpenSpec.ofChange fnIsPlainTermCutAndExactSpec)

/-- ITS FALSE NEIGHBOUR: 'it returns false'. Refute it at one input. -/
def fnIsPlainTermCutAndExactWrong : ChangeSpec := { name := "fnIsPlainTermCutAndExact", fn := fun _ => fun
  | [d1, d2] => { results := [.lit (.bool false)], args := [d1, d2] }
  | _ => none }
def FnIsPlainTermCutAndExactWrongFalsely : Prop := fnIsPlainTermCutAndExactRow.holds Try.pinned (OpenSpec.ofChange fnIsPlainTermCutAndExactWrong)

/-- 'zzlaws_internal_charset_b1.FnIsPlainTermOverEveryFirstByte': WHATEVER THE INPUT: true; the input reads as it did. -/
def fnIsPlainTermOverEveryFirstByteSpec : ChangeSpec := { name := "fnIsPlainTermOverEveryFirstByte", fn := fun _ => fun
  | [d] => { results := [.lit (.bool true)], args := [d] }
  | _ => none }
def fnIsPlainTermOverEveryFirstByteRow : OpenClaim := { program := "qxb6613004a", sum := "cffcae99b5ce88ccdf98bca4ecece4e704b0db8a21a38caaed9b0d856ff70941", func := "example.com/verdict/verdict/zzlaws_internal_charset_b1.FnIsPlainTermOverEveryFirstByte", spec := "fnIsPlainTermOverEveryFirstByte", apart := false }
def FnIsPlainTermOverEveryFirstByteSaid : Prop := fnIsPlainTermOverEveryFirstByteRow.holds Try.pinned (OpenSpec.ofChange fnIsPlainTermOverEveryFirstByteSpec)

/-- ITS FALSE NEIGHBOUR: 'it returns false'. Refute it at one input. -/
def fnIsPlainTermOverEveryFirstByteWrong : ChangeSpec := { name := "fnIsPlainTermOverEveryFirstByte", fn := fun _ => fun
  | [d] => { results := [.lit (.bool false)], args := [d] }
  | _ => none }
def FnIsPlainTermOverEveryFirstByteWrongFalsely : Prop := fnIsPlainTermOverEveryFirstByteRow.holds Try.pinned (OpenSpec.ofChange fnIsPlainTermOverEveryFirstByteWrong)

/-- 'zzlaws_internal_charset_b1.FnByLoLenCountsComplementGaps': WHATEVER THE INPUT: true; the input reads as it did. -/
def fnByLoLenCountsComplementGapsSpec : ChangeSpec := { name := "fnByLoLenCountsComplementGaps", fn := fun _ => fun
  | [d1, d2] => { results := [.lit (.bool true)], args := [d1, d2] }
  | _ => none }
def fnByLoLenCountsComplementGapsRow : OpenClaim := { program := "qxb6613004a", sum := "cffcae99b5ce88ccdf98bca4ecece4e704b0db8a21a38caaed9b0d856ff70941", func := "example.com/verdict/verdict/zzlaws_internal_charset_b1.FnByLoLenCountsComplementGaps", spec := "fnByLoLenCountsComplementGaps", apart := false }
def FnByLoLenCountsComplementGapsSaid : Prop := fnByLoLenCountsComplementGapsRow.holds Try.pinned (OpenSpec.ofChange fnByLoLenCountsComplementGapsSpec)

/-- ITS FALSE NEIGHBOUR: 'it returns false'. Refute it at one input. -/
def fnByLoLenCountsComplementGapsWrong : ChangeSpec := { name := "fnByLoLenCountsComplementGaps", fn := fun _ => fun
  | [d1, d2] => { results := [.lit (.bool false)], args := [d1, d2] }
  | _ => none }
def FnByLoLenCountsComplementGapsWrongFalsely : Prop := fnByLoLenCountsComplementGapsRow.holds Try.pinned (OpenSpec.ofChange fnByLoLenCountsComplementGapsWrong)

/-- 'zzlaws_internal_charset_b1.FnByLoLenUnionWithComplementIsOne': WHATEVER THE INPUT: true; the input reads as it did. -/
def fnByLoLenUnionWithComplementIsOneSpec : ChangeSpec := { name := "fnByLoLenUnionWithComplementIsOne", fn := fun _ => fun
  | [d1, d2] => { results := [.lit (.bool true)], args := [d1, d2] }
  | _ => none }
def fnByLoLenUnionWithComplementIsOneRow : OpenClaim := { program := "qxb6613004a", sum := "cffcae99b5ce88ccdf98bca4ecece4e704b0db8a21a38caaed9b0d856ff70941", func := "example.com/verdict/verdict/zzlaws_internal_charset_b1.FnByLoLenUnionWithComplementIsOne", spec := "fnByLoLenUnionWithComplementIsOne", apart := false }
def FnByLoLenUnionWithComplementIsOneSaid : Prop := fnByLoLenUnionWithComplementIsOneRow.holds Try.pinned (OpenSpec.ofChange fnByLoLenUnionWithComplementIsOneSpec)

/-- ITS FALSE NEIGHBOUR: 'it returns false'. Refute it at one input. -/
def fnByLoLenUnionWithComplementIsOneWrong : ChangeSpec := { name := "fnByLoLenUnionWithComplementIsOne", fn := fun _ => fun
  | [d1, d2] => { results := [.lit (.bool false)], args := [d1, d2] }
  | _ => none }
def FnByLoLenUnionWithComplementIsOneWrongFalsely : Prop := fnByLoLenUnionWithComplementIsOneRow.holds Try.pinned (OpenSpec.ofChange fnByLoLenUnionWithComplementIsOneWrong)

end Rows
end Go.Proofs.Qxb6613004a
