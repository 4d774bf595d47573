/-
  No cell of these rows narrows 'for every input' (looked for: loops, veiled, ifaces, maps, wideKeys, modest, calm, conditions, laid).
  DERIVED. THE GIVEN ROWS OF THIS SEAT. 4 by the template 'for every input the law returns true; each argument reads behind the call as it read before'; 0 by the template 'total and deterministic' (their statements: Qxb6605216aTotals.lean).
  GIVEN WITH THE SEED: the statements are not yours to turn. If you find one false, say at which input.
  Laid BY PROGRAM, IN A SANDBOX (cutbox-rows.mjs): the forced cells as the released guide's own fill.sh prints them over the translation ef14c291cc71e4c1… (all of the seat's roots in one cut). By AI agents, Wed Nov 11 2026. No macro, syntax, notation, axiom, sorry.
-/
import Derived.Test.Qxb6605216aChecked
import GoSem.Claim
import GoSem.ClaimJoined
import GoSem.ClaimMapViews
import Derived.JoinedTies
import Derived.KernelRfl
namespace Go.Proofs.Qxb6605216a
/- THE CELL 'sum', in the pinned program and in every row, IS THE sha256 OF THE DUMP (.gsa) THAT Qxb6605216aProg.lean LOADS. Nothing in Lean hashes anything: it is a label: what it is worth is what the hold of that sum in a sandbox is worth. -/
noncomputable def Try.pinned : Pinned := { name := "qxb6605216a", sum := "ef14c291cc71e4c15c50cf54f6075c939816223a258764ba618b3223b3e6583f", checked := Try.checked }
namespace Rows
def none {H : Type} : Left H := { results := [], args := [] }

/-- 'zzlaws_frontmatter_b1.FnOpensCommentMatchesQuotedSpanModel': WHATEVER THE INPUT: true; the input reads as it did. -/
def fnOpensCommentMatchesQuotedSpanModelSpec : ChangeSpec := { name := "fnOpensCommentMatchesQuotedSpanModel", fn := fun _ => fun
  | [d] => { results := [.lit (.bool true)], args := [d] }
  | _ => none }
def fnOpensCommentMatchesQuotedSpanModelRow : OpenClaim := { program := "qxb6605216a", sum := "ef14c291cc71e4c15c50cf54f6075c939816223a258764ba618b3223b3e6583f", func := "example.com/driftmark/driftmark/zzlaws_frontmatter_b1.FnOpensCommentMatchesQuotedSpanModel", spec := "fnOpensCommentMatchesQuotedSpanModel", inPlace := ["internal/bytealg.IndexByteString"], apart := false }
def FnOpensCommentMatchesQuotedSpanModelSaid : Prop := fnOpensCommentMatchesQuotedSpanModelRow.holds Try.pinned (OpenSpec.ofChange fnOpensCommentMatchesQuotedSpanModelSpec)

/-- ITS FALSE NEIGHBOUR: 'it returns false'. Refute it at one input. -/
def fnOpensCommentMatchesQuotedSpanModelWrong : ChangeSpec := { name := "fnOpensCommentMatchesQuotedSpanModel", fn := fun _ => fun
  | [d] => { results := [.lit (.bool false)], args := [d] }
  | _ => none }
def FnOpensCommentMatchesQuotedSpanModelWrongFalsely : Prop := fnOpensCommentMatchesQuotedSpanModelRow.holds Try.pinned (OpenSpec.ofChange fnOpensCommentMatchesQuotedSpanModelWrong)

/-- 'zzlaws_frontmatter_b1.FnOpensCommentHashAfterBlankAndExtension': WHATEVER THE INPUT: true; the input reads as it did. -/
def fnOpensCommentHashAfterBlankAndExtensionSpec : ChangeSpec := { name := "fnOpensCommentHashAfterBlankAndExtension", fn := fun _ => fun
  | [d1, d2] => { results := [.lit (.bool true)], args := [d1, d2] }
  | _ => none }
def fnOpensCommentHashAfterBlankAndExtensionRow : OpenClaim := { program := "qxb6605216a", sum := "ef14c291cc71e4c15c50cf54f6075c939816223a258764ba618b3223b3e6583f", func := "example.com/driftmark/driftmark/zzlaws_frontmatter_b1.FnOpensCommentHashAfterBlankAndExtension", spec := "fnOpensCommentHashAfterBlankAndExtension", inPlace := ["internal/bytealg.IndexByteString"], apart := false }
def FnOpensCommentHashAfterBlankAndExtensionSaid : Prop := fnOpensCommentHashAfterBlankAndExtensionRow.holds Try.pinned (OpenSpec.ofChange fnOpensCommentHashAfterBlankAndExtensionSpec)

/-- ITS FALSE NEIGHBOUR: 'it returns false'. Refute it at one input. -/
def fnOpensCommentHashAfterBlankAndExtensionWrong : ChangeSpec := { name := "fnOpensCommentHashAfterBlankAndExtension", fn := fun _ => fun
  | [d1, d2] => { results := [.lit (.bool false)], args := [d1, d2] }
  | _ => none }
def FnOpensCommentHashAfterBlankAndExtensionWrongFalsely : Prop := fnOpensCommentHashAfterBlankAndExtensionRow.holds Try.pinned (OpenSpec.ofChange fnOpensCommentHashAfterBlankAndExtensionWrong)

/-- 'zzlaws_frontmatter_b1.FnHTMLTagMatchesCommonMarkGrammar': WHATEVER THE INPUT: true; the input reads as it did. -/
def fnHTMLTagMatchesCommonMarkGrammarSpec : ChangeSpec := { name := "fnHTMLTagMatchesCommonMarkGrammar", fn := fun _ => fun
  | [d] => { results := [.lit (.bool true)], args := [d] }
  | _ => none }
def fnHTMLTagMatchesCommonMarkGrammarRow : OpenClaim := { program := "qxb6605216a", sum := "ef14c291cc71e4c15c50cf54f6075c939816223a258764ba618b3223b3e6583f", func := "example.com/driftmark/driftmark/zzlaws_frontmatter_b1.FnHTMLTagMatchesCommonMarkGrammar", spec := "fnHTMLTagMatchesCommonMarkGrammar", inPlace := ["internal/bytealg.IndexByteString", "internal/bytealg.IndexByte"], apart := false }
def FnHTMLTagMatchesCommonMarkGrammarSaid : Prop := fnHTMLTagMatchesCommonMarkGrammarRow.holds Try.pinned (OpenSpec.ofChange fnHTMLTagMatchesCommonMarkGrammarSpec)

/-- ITS FALSE NEIGHBOUR: 'it returns false'. Refute it at one input. -/
def fnHTMLTagMatchesCommonMarkGrammarWrong : ChangeSpec := { name := "fnHTMLTagMatchesCommonMarkGrammar", fn := fun _ => fun
  | [d] => { results := [.lit (.bool false)], args := [d] }
  | _ => none }
def FnHTMLTagMatchesCommonMarkGrammarWrongFalsely : Prop := fnHTMLTagMatchesCommonMarkGrammarRow.holds Try.pinned (OpenSpec.ofChange fnHTMLTagMatchesCommonMarkGrammarWrong)

/-- 'zzlaws_frontmatter_b1.FnHTMLTagEndsAtItsOwnClosingBracket': WHATEVER THE INPUT: true; the input reads as it did. -/
def fnHTMLTagEndsAtItsOwnClosingBracketSpec : ChangeSpec := { name := "fnHTMLTagEndsAtItsOwnClosingBracket", fn := fun _ => fun
  | [d1, d2] => { results := [.lit (.bool true)], args := [d1, d2] }
  | _ => none }
def fnHTMLTagEndsAtItsOwnClosingBracketRow : OpenClaim := { program := "qxb6605216a", sum := "ef14c291cc71e4c15c50cf54f6075c939816223a258764ba618b3223b3e6583f", func := "example.com/driftmark/driftmark/zzlaws_frontmatter_b1.FnHTMLTagEndsAtItsOwnClosingBracket", spec := "fnHTMLTagEndsAtItsOwnClosingBracket", inPlace := ["internal/bytealg.IndexByteString", "internal/bytealg.IndexByte"], apart := false }
def FnHTMLTagEndsAtItsOwnClosingBracketSaid : Prop := fnHTMLTagEndsAtItsOwnClosingBracketRow.holds Try.pinned (OpenSpec.ofChange fnHTMLTagEndsAtItsOwnClosingBracketSpec)

/-- ITS FALSE NEIGHBOUR: 'it returns false'. Refute it at one input. -/
def fnHTMLTagEndsAtItsOwnClosingBracketWrong : ChangeSpec := { name := "fnHTMLTagEndsAtItsOwnClosingBracket", fn := fun _ => fun
  | [d1, d2] => { results := [.lit (.bool false)], args := [d1, d2] }
  | _ => none }
def FnHTMLTagEndsAtItsOwnClosingBracketWrongFalsely : Prop := fnHTMLTagEndsAtItsOwnClosingBracketRow.holds Try.pinned (OpenSpec.ofChange fnHTMLTagEndsAtItsOwnClosingBracketWrong)

end Rows
end Go.Proofs.Qxb6605216a
