/-
  No cell of these rows narrows 'for every input' (looked for: loops, veiled, ifaces, maps, wideKeys, modest, calm, conditions, laid).
  DERIVED. THE GIVEN ROWS OF THIS SEAT. 6 by the template 'for every input the law returns true; each argument reads behind the call as it read before'; 0 by the template 'total and deterministic' (their statements: Qxb6001116aTotals.lean).
  GIVEN WITH THE SEED: the statements are not yours to turn. If you find one false, say at which input.
  Laid BY PROGRAM, IN A SANDBOX (cutbox-rows.mjs): the forced cells as the released guide's own fill.sh prints them over the translation 1a1da8fb336906de… (all of the seat's roots in one cut). By AI agents, Wed Nov 11 2026. No macro, syntax, notation, axiom, sorry.
-/
import Derived.Test.Qxb6001116aChecked
import GoSem.Claim
import GoSem.ClaimJoined
import GoSem.ClaimMapViews
import Derived.JoinedTies
import Derived.KernelRfl
namespace Go.Proofs.Qxb6001116a
/- THE CELL 'sum', in the pinned program and in every row, IS THE sha256 OF THE DUMP (.gsa) THAT Qxb6001116aProg.lean LOADS. Nothing in Lean hashes anything: it is a label: what it is worth is what the hold of that sum in a sandbox is worth. -/
noncomputable def Try.pinned : Pinned := { name := "qxb6001116a", sum := "1a1da8fb336906de321b3a18baad4ceb83be923f0124fa72f7ff75d0525b8e42", checked := Try.checked }
namespace Rows
def none {H : Type} : Left H := { results := [], args := [] }

/-- 'zzlaws_decimal_b1.FnGroupStripCommasRestores': WHATEVER THE INPUT: true; the input reads as it did. -/
def fnGroupStripCommasRestoresSpec : ChangeSpec := { name := "fnGroupStripCommasRestores", fn := fun _ => fun
  | [d] => { results := [.lit (.bool true)], args := [d] }
  | _ => none }
def fnGroupStripCommasRestoresRow : OpenClaim := { program := "qxb6001116a", sum := "1a1da8fb336906de321b3a18baad4ceb83be923f0124fa72f7ff75d0525b8e42", func := "example.com/tenderbook/tenderbook/zzlaws_decimal_b1.FnGroupStripCommasRestores", spec := "fnGroupStripCommasRestores", inPlace := ["internal/bytealg.IndexByteString", "internal/bytealg.IndexString", "internal/abi.NoEscape"], named := ["internal/bytealg.MaxLen"], apart := false }
def FnGroupStripCommasRestoresSaid : Prop := fnGroupStripCommasRestoresRow.holds Try.pinned (OpenSpec.ofChange fnGroupStripCommasRestoresSpec)

/-- ITS FALSE NEIGHBOUR: 'it returns false'. Refute it at one input. -/
def fnGroupStripCommasRestoresWrong : ChangeSpec := { name := "fnGroupStripCommasRestores", fn := fun _ => fun
  | [d] => { results := [.lit (.bool false)], args := [d] }
  | _ => none }
def FnGroupStripCommasRestoresWrongFalsely : Prop := fnGroupStripCommasRestoresRow.holds Try.pinned (OpenSpec.ofChange fnGroupStripCommasRestoresWrong)

/-- 'zzlaws_decimal_b1.FnGroupShape': WHATEVER THE INPUT: true; the input reads as it did. -/
def fnGroupShapeSpec : ChangeSpec := { name := "fnGroupShape", fn := fun _ => fun
  | [d] => { results := [.lit (.bool true)], args := [d] }
  | _ => none }
def fnGroupShapeRow : OpenClaim := { program := "qxb6001116a", sum := "1a1da8fb336906de321b3a18baad4ceb83be923f0124fa72f7ff75d0525b8e42", func := "example.com/tenderbook/tenderbook/zzlaws_decimal_b1.FnGroupShape", spec := "fnGroupShape", inPlace := ["internal/bytealg.IndexByteString", "internal/bytealg.IndexString", "internal/abi.NoEscape"], named := ["internal/bytealg.MaxLen"], apart := false }
def FnGroupShapeSaid : Prop := fnGroupShapeRow.holds Try.pinned (OpenSpec.ofChange fnGroupShapeSpec)

/-- ITS FALSE NEIGHBOUR: 'it returns false'. Refute it at one input. -/
def fnGroupShapeWrong : ChangeSpec := { name := "fnGroupShape", fn := fun _ => fun
  | [d] => { results := [.lit (.bool false)], args := [d] }
  | _ => none }
def FnGroupShapeWrongFalsely : Prop := fnGroupShapeRow.holds Try.pinned (OpenSpec.ofChange fnGroupShapeWrong)

/-- 'zzlaws_decimal_b1.FnGroupUnchangedExactly': WHATEVER THE INPUT: true; the input reads as it did. -/
def fnGroupUnchangedExactlySpec : ChangeSpec := { name := "fnGroupUnchangedExactly", fn := fun _ => fun
  | [d] => { results := [.lit (.bool true)], args := [d] }
  | _ => none }
def fnGroupUnchangedExactlyRow : OpenClaim := { program := "qxb6001116a", sum := "1a1da8fb336906de321b3a18baad4ceb83be923f0124fa72f7ff75d0525b8e42", func := "example.com/tenderbook/tenderbook/zzlaws_decimal_b1.FnGroupUnchangedExactly", spec := "fnGroupUnchangedExactly", inPlace := ["internal/bytealg.IndexByteString", "internal/bytealg.IndexString", "internal/abi.NoEscape"], named := ["internal/bytealg.MaxLen"], apart := false }
def FnGroupUnchangedExactlySaid : Prop := fnGroupUnchangedExactlyRow.holds Try.pinned (OpenSpec.ofChange fnGroupUnchangedExactlySpec)

/-- ITS FALSE NEIGHBOUR: 'it returns false'. Refute it at one input. -/
def fnGroupUnchangedExactlyWrong : ChangeSpec := { name := "fnGroupUnchangedExactly", fn := fun _ => fun
  | [d] => { results := [.lit (.bool false)], args := [d] }
  | _ => none }
def FnGroupUnchangedExactlyWrongFalsely : Prop := fnGroupUnchangedExactlyRow.holds Try.pinned (OpenSpec.ofChange fnGroupUnchangedExactlyWrong)

/-- 'zzlaws_decimal_b1.FnIsDigitsGroupLength': WHATEVER THE INPUT: true; the input reads as it did. -/
def fnIsDigitsGroupLengthSpec : ChangeSpec := { name := "fnIsDigitsGroupLength", fn := fun _ => fun
  | [d] => { results := [.lit (.bool true)], args := [d] }
  | _ => none }
def fnIsDigitsGroupLengthRow : OpenClaim := { program := "qxb6001116a", sum := "1a1da8fb336906de321b3a18baad4ceb83be923f0124fa72f7ff75d0525b8e42", func := "example.com/tenderbook/tenderbook/zzlaws_decimal_b1.FnIsDigitsGroupLength", spec := "fnIsDigitsGroupLength", inPlace := ["internal/bytealg.IndexByteString", "internal/bytealg.IndexString", "internal/abi.NoEscape"], named := ["internal/bytealg.MaxLen"], apart := false }
def FnIsDigitsGroupLengthSaid : Prop := fnIsDigitsGroupLengthRow.holds Try.pinned (OpenSpec.ofChange fnIsDigitsGroupLengthSpec)

/-- ITS FALSE NEIGHBOUR: 'it returns false'. Refute it at one input. -/
def fnIsDigitsGroupLengthWrong : ChangeSpec := { name := "fnIsDigitsGroupLength", fn := fun _ => fun
  | [d] => { results := [.lit (.bool false)], args := [d] }
  | _ => none }
def FnIsDigitsGroupLengthWrongFalsely : Prop := fnIsDigitsGroupLengthRow.holds Try.pinned (OpenSpec.ofChange fnIsDigitsGroupLengthWrong)

/-- 'zzlaws_decimal_b1.FnPointSplitsBack': WHATEVER THE INPUT: true; the input reads as it did. -/
def fnPointSplitsBackSpec : ChangeSpec := { name := "fnPointSplitsBack", fn := fun _ => fun
  | [d1, d2] => { results := [.lit (.bool true)], args := [d1, d2] }
  | _ => none }
def fnPointSplitsBackRow : OpenClaim := { program := "qxb6001116a", sum := "1a1da8fb336906de321b3a18baad4ceb83be923f0124fa72f7ff75d0525b8e42", func := "example.com/tenderbook/tenderbook/zzlaws_decimal_b1.FnPointSplitsBack", spec := "fnPointSplitsBack", inPlace := ["internal/abi.NoEscape", "internal/bytealg.MakeNoZero", "internal/bytealg.IndexByteString", "internal/bytealg.IndexString"], named := ["internal/bytealg.MaxLen"], apart := false }
def FnPointSplitsBackSaid : Prop := fnPointSplitsBackRow.holds Try.pinned (OpenSpec.ofChange fnPointSplitsBackSpec)

/-- ITS FALSE NEIGHBOUR: 'it returns false'. Refute it at one input. -/
def fnPointSplitsBackWrong : ChangeSpec := { name := "fnPointSplitsBack", fn := fun _ => fun
  | [d1, d2] => { results := [.lit (.bool false)], args := [d1, d2] }
  | _ => none }
def FnPointSplitsBackWrongFalsely : Prop := fnPointSplitsBackRow.holds Try.pinned (OpenSpec.ofChange fnPointSplitsBackWrong)

/-- 'zzlaws_decimal_b1.FnPointSignAndLength': WHATEVER THE INPUT: true; the input reads as it did. -/
def fnPointSignAndLengthSpec : ChangeSpec := { name := "fnPointSignAndLength", fn := fun _ => fun
  | [d1, d2, d3] => { results := [.lit (.bool true)], args := [d1, d2, d3] }
  | _ => none }
def fnPointSignAndLengthRow : OpenClaim := { program := "qxb6001116a", sum := "1a1da8fb336906de321b3a18baad4ceb83be923f0124fa72f7ff75d0525b8e42", func := "example.com/tenderbook/tenderbook/zzlaws_decimal_b1.FnPointSignAndLength", spec := "fnPointSignAndLength", inPlace := ["internal/abi.NoEscape", "internal/bytealg.MakeNoZero"], apart := false }
def FnPointSignAndLengthSaid : Prop := fnPointSignAndLengthRow.holds Try.pinned (OpenSpec.ofChange fnPointSignAndLengthSpec)

/-- ITS FALSE NEIGHBOUR: 'it returns false'. Refute it at one input. -/
def fnPointSignAndLengthWrong : ChangeSpec := { name := "fnPointSignAndLength", fn := fun _ => fun
  | [d1, d2, d3] => { results := [.lit (.bool false)], args := [d1, d2, d3] }
  | _ => none }
def FnPointSignAndLengthWrongFalsely : Prop := fnPointSignAndLengthRow.holds Try.pinned (OpenSpec.ofChange fnPointSignAndLengthWrong)

end Rows
end Go.Proofs.Qxb6001116a
