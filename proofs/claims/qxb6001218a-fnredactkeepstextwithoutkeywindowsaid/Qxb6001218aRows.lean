/-
  No cell of these rows narrows 'for every input' (looked for: loops, veiled, ifaces, maps, wideKeys, modest, calm, conditions, laid).
  DERIVED. THE GIVEN ROWS OF THIS SEAT. 3 by the template 'for every input the law returns true; each argument reads behind the call as it read before'; 0 by the template 'total and deterministic' (their statements: Qxb6001218aTotals.lean).
  GIVEN WITH THE SEED: the statements are not yours to turn. If you find one false, say at which input.
  Laid BY PROGRAM, IN A SANDBOX (cutbox-rows.mjs): the forced cells as the released guide's own fill.sh prints them over the translation bb67a9fec1c5c643… (all of the seat's roots in one cut). By AI agents, Wed Nov 11 2026. No macro, syntax, notation, axiom, sorry.
-/
import Derived.Test.Qxb6001218aChecked
import GoSem.Claim
import GoSem.ClaimJoined
import GoSem.ClaimMapViews
import Derived.JoinedTies
import Derived.KernelRfl
namespace Go.Proofs.Qxb6001218a
/- THE CELL 'sum', in the pinned program and in every row, IS THE sha256 OF THE DUMP (.gsa) THAT Qxb6001218aProg.lean LOADS. Nothing in Lean hashes anything: it is a label: what it is worth is what the hold of that sum in a sandbox is worth. -/
noncomputable def Try.pinned : Pinned := { name := "qxb6001218a", sum := "bb67a9fec1c5c643ad19c8958e9ff41f0e34d53f43702da554d4d7c208b45468", checked := Try.checked }
namespace Rows
def none {H : Type} : Left H := { results := [], args := [] }

/-- 'zzlaws_root_b1.FnRedactLeavesNoKeyWindow': WHATEVER THE INPUT: true; the input reads as it did. -/
def fnRedactLeavesNoKeyWindowSpec : ChangeSpec := { name := "fnRedactLeavesNoKeyWindow", fn := fun _ => fun
  | [d1, d2] => { results := [.lit (.bool true)], args := [d1, d2] }
  | _ => none }
def fnRedactLeavesNoKeyWindowRow : OpenClaim := { program := "qxb6001218a", sum := "bb67a9fec1c5c643ad19c8958e9ff41f0e34d53f43702da554d4d7c208b45468", func := "example.com/sturdy-completions/sturdy-completions/zzlaws_root_b1.FnRedactLeavesNoKeyWindow", spec := "fnRedactLeavesNoKeyWindow", inPlace := ["internal/bytealg.IndexByteString", "internal/bytealg.IndexString", "internal/abi.NoEscape"], named := ["internal/bytealg.MaxLen"], apart := false }
def FnRedactLeavesNoKeyWindowSaid : Prop := fnRedactLeavesNoKeyWindowRow.holds Try.pinned (OpenSpec.ofChange fnRedactLeavesNoKeyWindowSpec)

/-- ITS FALSE NEIGHBOUR: 'it returns false'. Refute it at one input. -/
def fnRedactLeavesNoKeyWindowWrong : ChangeSpec := { name := "fnRedactLeavesNoKeyWindow", fn := fun _ => fun
  | [d1, d2] => { results := [.lit (.bool false)], args := [d1, d2] }
  | _ => none }
def FnRedactLeavesNoKeyWindowWrongFalsely : Prop := fnRedactLeavesNoKeyWindowRow.holds Try.pinned (OpenSpec.ofChange fnRedactLeavesNoKeyWindowWrong)

/-- 'zzlaws_root_b1.FnRedactKeepsTextWithoutKeyWindow': WHATEVER THE INPUT: true; the input reads as it did. -/
def fnRedactKeepsTextWithoutKeyWindowSpec : ChangeSpec := { name := "fnRedactKeepsTextWithoutKeyWindow", fn := fun _ => fun
  | [d1, d2] => { results := [.lit (.bool true)], args := [d1, d2] }
  | _ => none }
def fnRedactKeepsTextWithoutKeyWindowRow : OpenClaim := { program := "qxb6001218a", sum := "bb67a9fec1c5c643ad19c8958e9ff41f0e34d53f43702da554d4d7c208b45468", func := "example.com/sturdy-completions/sturdy-completions/zzlaws_root_b1.FnRedactKeepsTextWithoutKeyWindow", spec := "fnRedactKeepsTextWithoutKeyWindow", inPlace := ["internal/bytealg.IndexByteString", "internal/bytealg.IndexString", "internal/abi.NoEscape"], named := ["internal/bytealg.MaxLen"], apart := false }
def FnRedactKeepsTextWithoutKeyWindowSaid : Prop := fnRedactKeepsTextWithoutKeyWindowRow.holds Try.pinned (OpenSpec.ofChange fnRedactKeepsTextWithoutKeyWindowSpec)

/-- ITS FALSE NEIGHBOUR: 'it returns false'. Refute it at one input. -/
def fnRedactKeepsTextWithoutKeyWindowWrong : ChangeSpec := { name := "fnRedactKeepsTextWithoutKeyWindow", fn := fun _ => fun
  | [d1, d2] => { results := [.lit (.bool false)], args := [d1, d2] }
  | _ => none }
def FnRedactKeepsTextWithoutKeyWindowWrongFalsely : Prop := fnRedactKeepsTextWithoutKeyWindowRow.holds Try.pinned (OpenSpec.ofChange fnRedactKeepsTextWithoutKeyWindowWrong)

/-- 'zzlaws_root_b1.FnRedactIdempotent': WHATEVER THE INPUT: true; the input reads as it did. -/
def fnRedactIdempotentSpec : ChangeSpec := { name := "fnRedactIdempotent", fn := fun _ => fun
  | [d1, d2] => { results := [.lit (.bool true)], args := [d1, d2] }
  | _ => none }
def fnRedactIdempotentRow : OpenClaim := { program := "qxb6001218a", sum := "bb67a9fec1c5c643ad19c8958e9ff41f0e34d53f43702da554d4d7c208b45468", func := "example.com/sturdy-completions/sturdy-completions/zzlaws_root_b1.FnRedactIdempotent", spec := "fnRedactIdempotent", inPlace := ["internal/bytealg.IndexByteString", "internal/bytealg.IndexString", "internal/abi.NoEscape"], named := ["internal/bytealg.MaxLen"], apart := false }
def FnRedactIdempotentSaid : Prop := fnRedactIdempotentRow.holds Try.pinned (OpenSpec.ofChange fnRedactIdempotentSpec)

/-- ITS FALSE NEIGHBOUR: 'it returns false'. Refute it at one input. -/
def fnRedactIdempotentWrong : ChangeSpec := { name := "fnRedactIdempotent", fn := fun _ => fun
  | [d1, d2] => { results := [.lit (.bool false)], args := [d1, d2] }
  | _ => none }
def FnRedactIdempotentWrongFalsely : Prop := fnRedactIdempotentRow.holds Try.pinned (OpenSpec.ofChange fnRedactIdempotentWrong)

end Rows
end Go.Proofs.Qxb6001218a
