/-
  No cell of these rows narrows 'for every input' (looked for: loops, veiled, ifaces, maps, wideKeys, modest, calm, conditions, laid).
  DERIVED. THE GIVEN ROWS OF THIS SEAT. 6 by the template 'for every input the law returns true; each argument reads behind the call as it read before'; 0 by the template 'total and deterministic' (their statements: Qxb6001238aTotals.lean).
  GIVEN WITH THE SEED: the statements are not yours to turn. If you find one false, say at which input.
  Laid BY PROGRAM, IN A SANDBOX (cutbox-rows.mjs): the forced cells as the released guide's own fill.sh prints them over the translation 87a159bd2b2f08ac… (all of the seat's roots in one cut). By AI agents, Wed Nov 11 2026. No macro, syntax, notation, axiom, sorry.
-/
import Derived.Test.Qxb6001238aChecked
import GoSem.Claim
import GoSem.ClaimJoined
import GoSem.ClaimMapViews
import Derived.JoinedTies
import Derived.KernelRfl
namespace Go.Proofs.Qxb6001238a
/- THE CELL 'sum', in the pinned program and in every row, IS THE sha256 OF THE DUMP (.gsa) THAT Qxb6001238aProg.lean LOADS. Nothing in Lean hashes anything: it is a label: what it is worth is what the hold of that sum in a sandbox is worth. -/
noncomputable def Try.pinned : Pinned := { name := "qxb6001238a", sum := "87a159bd2b2f08ac3f582728b5ce497bd4370f1714f234d9c3eff2df9dea0853", checked := Try.checked }
namespace Rows
def none {H : Type} : Left H := { results := [], args := [] }

/-- 'zzlaws_internal_httpfield_b1.FnIsTokenOneByteIsRFCTchar': WHATEVER THE INPUT: true; the input reads as it did. -/
def fnIsTokenOneByteIsRFCTcharSpec : ChangeSpec := { name := "fnIsTokenOneByteIsRFCTchar", fn := fun _ => fun
  | [d] => { results := [.lit (.bool true)], args := [d] }
  | _ => none }
def fnIsTokenOneByteIsRFCTcharRow : OpenClaim := { program := "qxb6001238a", sum := "87a159bd2b2f08ac3f582728b5ce497bd4370f1714f234d9c3eff2df9dea0853", func := "example.com/nimble-trace/nimble-trace/zzlaws_internal_httpfield_b1.FnIsTokenOneByteIsRFCTchar", spec := "fnIsTokenOneByteIsRFCTchar", inPlace := ["internal/bytealg.IndexByteString"], apart := false }
def FnIsTokenOneByteIsRFCTcharSaid : Prop := fnIsTokenOneByteIsRFCTcharRow.holds Try.pinned (OpenSpec.ofChange fnIsTokenOneByteIsRFCTcharSpec)

/-- ITS FALSE NEIGHBOUR: 'it returns false'. Refute it at one input. -/
def fnIsTokenOneByteIsRFCTcharWrong : ChangeSpec := { name := "fnIsTokenOneByteIsRFCTchar", fn := fun _ => fun
  | [d] => { results := [.lit (.bool false)], args := [d] }
  | _ => none }
def FnIsTokenOneByteIsRFCTcharWrongFalsely : Prop := fnIsTokenOneByteIsRFCTcharRow.holds Try.pinned (OpenSpec.ofChange fnIsTokenOneByteIsRFCTcharWrong)

/-- 'zzlaws_internal_httpfield_b1.FnIsTokenConcatenation': WHATEVER THE INPUT: true; the input reads as it did. -/
def fnIsTokenConcatenationSpec : ChangeSpec := { name := "fnIsTokenConcatenation", fn := fun _ => fun
  | [d1, d2] => { results := [.lit (.bool true)], args := [d1, d2] }
  | _ => none }
def fnIsTokenConcatenationRow : OpenClaim := { program := "qxb6001238a", sum := "87a159bd2b2f08ac3f582728b5ce497bd4370f1714f234d9c3eff2df9dea0853", func := "example.com/nimble-trace/nimble-trace/zzlaws_internal_httpfield_b1.FnIsTokenConcatenation", spec := "fnIsTokenConcatenation", inPlace := ["internal/bytealg.IndexByteString"], apart := false }
def FnIsTokenConcatenationSaid : Prop := fnIsTokenConcatenationRow.holds Try.pinned (OpenSpec.ofChange fnIsTokenConcatenationSpec)

/-- ITS FALSE NEIGHBOUR: 'it returns false'. Refute it at one input. -/
def fnIsTokenConcatenationWrong : ChangeSpec := { name := "fnIsTokenConcatenation", fn := fun _ => fun
  | [d1, d2] => { results := [.lit (.bool false)], args := [d1, d2] }
  | _ => none }
def FnIsTokenConcatenationWrongFalsely : Prop := fnIsTokenConcatenationRow.holds Try.pinned (OpenSpec.ofChange fnIsTokenConcatenationWrong)

/-- 'zzlaws_internal_httpfield_b1.FnIsTokenListWithinNeverSplitsTokens': WHATEVER THE INPUT: true; the input reads as it did. -/
def fnIsTokenListWithinNeverSplitsTokensSpec : ChangeSpec := { name := "fnIsTokenListWithinNeverSplitsTokens", fn := fun _ => fun
  | [d1, d2] => { results := [.lit (.bool true)], args := [d1, d2] }
  | _ => none }
def fnIsTokenListWithinNeverSplitsTokensRow : OpenClaim := { program := "qxb6001238a", sum := "87a159bd2b2f08ac3f582728b5ce497bd4370f1714f234d9c3eff2df9dea0853", func := "example.com/nimble-trace/nimble-trace/zzlaws_internal_httpfield_b1.FnIsTokenListWithinNeverSplitsTokens", spec := "fnIsTokenListWithinNeverSplitsTokens", inPlace := ["internal/bytealg.IndexByteString"], apart := false }
def FnIsTokenListWithinNeverSplitsTokensSaid : Prop := fnIsTokenListWithinNeverSplitsTokensRow.holds Try.pinned (OpenSpec.ofChange fnIsTokenListWithinNeverSplitsTokensSpec)

/-- ITS FALSE NEIGHBOUR: 'it returns false'. Refute it at one input. -/
def fnIsTokenListWithinNeverSplitsTokensWrong : ChangeSpec := { name := "fnIsTokenListWithinNeverSplitsTokens", fn := fun _ => fun
  | [d1, d2] => { results := [.lit (.bool false)], args := [d1, d2] }
  | _ => none }
def FnIsTokenListWithinNeverSplitsTokensWrongFalsely : Prop := fnIsTokenListWithinNeverSplitsTokensRow.holds Try.pinned (OpenSpec.ofChange fnIsTokenListWithinNeverSplitsTokensWrong)

/-- 'zzlaws_internal_httpfield_b1.FnListWithinCutsOnlyAtMemberBoundaries': WHATEVER THE INPUT: true; the input reads as it did. -/
def fnListWithinCutsOnlyAtMemberBoundariesSpec : ChangeSpec := { name := "fnListWithinCutsOnlyAtMemberBoundaries", fn := fun _ => fun
  | [d1, d2] => { results := [.lit (.bool true)], args := [d1, d2] }
  | _ => none }
def fnListWithinCutsOnlyAtMemberBoundariesRow : OpenClaim := { program := "qxb6001238a", sum := "87a159bd2b2f08ac3f582728b5ce497bd4370f1714f234d9c3eff2df9dea0853", func := "example.com/nimble-trace/nimble-trace/zzlaws_internal_httpfield_b1.FnListWithinCutsOnlyAtMemberBoundaries", spec := "fnListWithinCutsOnlyAtMemberBoundaries", apart := false }
def FnListWithinCutsOnlyAtMemberBoundariesSaid : Prop := fnListWithinCutsOnlyAtMemberBoundariesRow.holds Try.pinned (OpenSpec.ofChange fnListWithinCutsOnlyAtMemberBoundariesSpec)

/-- ITS FALSE NEIGHBOUR: 'it returns false'. Refute it at one input. -/
def fnListWithinCutsOnlyAtMemberBoundariesWrong : ChangeSpec := { name := "fnListWithinCutsOnlyAtMemberBoundaries", fn := fun _ => fun
  | [d1, d2] => { results := [.lit (.bool false)], args := [d1, d2] }
  | _ => none }
def FnListWithinCutsOnlyAtMemberBoundariesWrongFalsely : Prop := fnListWithinCutsOnlyAtMemberBoundariesRow.holds Try.pinned (OpenSpec.ofChange fnListWithinCutsOnlyAtMemberBoundariesWrong)

/-- 'zzlaws_internal_httpfield_b1.FnListWithinStaysWithinLimit': WHATEVER THE INPUT: true; the input reads as it did. -/
def fnListWithinStaysWithinLimitSpec : ChangeSpec := { name := "fnListWithinStaysWithinLimit", fn := fun _ => fun
  | [d1, d2] => { results := [.lit (.bool true)], args := [d1, d2] }
  | _ => none }
def fnListWithinStaysWithinLimitRow : OpenClaim := { program := "qxb6001238a", sum := "87a159bd2b2f08ac3f582728b5ce497bd4370f1714f234d9c3eff2df9dea0853", func := "example.com/nimble-trace/nimble-trace/zzlaws_internal_httpfield_b1.FnListWithinStaysWithinLimit", spec := "fnListWithinStaysWithinLimit", apart := false }
def FnListWithinStaysWithinLimitSaid : Prop := fnListWithinStaysWithinLimitRow.holds Try.pinned (OpenSpec.ofChange fnListWithinStaysWithinLimitSpec)

/-- ITS FALSE NEIGHBOUR: 'it returns false'. Refute it at one input. -/
def fnListWithinStaysWithinLimitWrong : ChangeSpec := { name := "fnListWithinStaysWithinLimit", fn := fun _ => fun
  | [d1, d2] => { results := [.lit (.bool false)], args := [d1, d2] }
  | _ => none }
def FnListWithinStaysWithinLimitWrongFalsely : Prop := fnListWithinStaysWithinLimitRow.holds Try.pinned (OpenSpec.ofChange fnListWithinStaysWithinLimitWrong)

/-- 'zzlaws_internal_httpfield_b1.FnListWithinMonotoneInLimit': WHATEVER THE INPUT: true; the input reads as it did. -/
def fnListWithinMonotoneInLimitSpec : ChangeSpec := { name := "fnListWithinMonotoneInLimit", fn := fun _ => fun
  | [d1, d2, d3] => { results := [.lit (.bool true)], args := [d1, d2, d3] }
  | _ => none }
def fnListWithinMonotoneInLimitRow : OpenClaim := { program := "qxb6001238a", sum := "87a159bd2b2f08ac3f582728b5ce497bd4370f1714f234d9c3eff2df9dea0853", func := "example.com/nimble-trace/nimble-trace/zzlaws_internal_httpfield_b1.FnListWithinMonotoneInLimit", spec := "fnListWithinMonotoneInLimit", apart := false }
def FnListWithinMonotoneInLimitSaid : Prop := fnListWithinMonotoneInLimitRow.holds Try.pinned (OpenSpec.ofChange fnListWithinMonotoneInLimitSpec)

/-- ITS FALSE NEIGHBOUR: 'it returns false'. Refute it at one input. -/
def fnListWithinMonotoneInLimitWrong : ChangeSpec := { name := "fnListWithinMonotoneInLimit", fn := fun _ => fun
  | [d1, d2, d3] => { results := [.lit (.bool false)], args := [d1, d2, d3] }
  | _ => none }
def FnListWithinMonotoneInLimitWrongFalsely : Prop := fnListWithinMonotoneInLimitRow.holds Try.pinned (OpenSpec.ofChange fnListWithinMonotoneInLimitWrong)

end Rows
end Go.Proofs.Qxb6001238a
