/-
  No cell of these rows narrows 'for every input' (looked for: loops, veiled, ifaces, maps, wideKeys, modest, calm, conditions, laid).
  DERIVED. THE GIVEN ROWS OF THIS SEAT. 4 by the template 'for every input the law returns true; each argument reads behind the call as it read before'; 0 by the template 'total and deterministic' (their statements: Qxb6619429aTotals.lean).
  GIVEN WITH THE SEED: the statements are not yours to turn. If you find one false, say at which input.
  Laid BY PROGRAM, IN A SANDBOX (cutbox-rows.mjs): the forced cells as the released guide's own fill.sh prints them over the translation 476b915eae478048… (all of the seat's roots in one cut). By AI agents, Wed Nov 11 2026. No macro, syntax, notation, axiom, sorry.
-/
import Derived.Test.Qxb6619429aChecked
import GoSem.Claim
import GoSem.ClaimJoined
import GoSem.ClaimMapViews
import Derived.JoinedTies
import Derived.KernelRfl
namespace Go.Proofs.Qxb6619429a
/- THE CELL 'sum', in the pinned program and in every row, IS THE sha256 OF THE DUMP (.gsa) THAT Qxb6619429aProg.lean LOADS. Nothing in Lean hashes anything: it is a label: what it is worth is what the hold of that sum in a sandbox is worth. -/
noncomputable def Try.pinned : Pinned := { name := "qxb6619429a", sum := "476b915eae4780489f2fa4671844bc27221b66144e160ba2ac6c2e0e68de0c68", checked := Try.checked }
namespace Rows
def none {H : Type} : Left H := { results := [], args := [] }

/-- 'zzlaws_internal_flowlog_b1.FnQuotedEndsAtFirstUnescapedQuote': WHATEVER THE INPUT: true; the input reads as it did. -/
def fnQuotedEndsAtFirstUnescapedQuoteSpec : ChangeSpec := { name := "fnQuotedEndsAtFirstUnescapedQuote", fn := fun _ => fun
  | [d1, d2] => { results := [.lit (.bool true)], args := [d1, d2] }
  | _ => none }
def fnQuotedEndsAtFirstUnescapedQuoteRow : OpenClaim := { program := "qxb6619429a", sum := "476b915eae4780489f2fa4671844bc27221b66144e160ba2ac6c2e0e68de0c68", func := "example.com/via2/via2/zzlaws_internal_flowlog_b1.FnQuotedEndsAtFirstUnescapedQuote", spec := "fnQuotedEndsAtFirstUnescapedQuote", apart := false }
def FnQuotedEndsAtFirstUnescapedQuoteSaid : Prop := fnQuotedEndsAtFirstUnescapedQuoteRow.holds Try.pinned (OpenSpec.ofChange fnQuotedEndsAtFirstUnescapedQuoteSpec)

/-- ITS FALSE NEIGHBOUR: 'it returns false'. Refute it at one input. -/
def fnQuotedEndsAtFirstUnescapedQuoteWrong : ChangeSpec := { name := "fnQuotedEndsAtFirstUnescapedQuote", fn := fun _ => fun
  | [d1, d2] => { results := [.lit (.bool false)], args := [d1, d2] }
  | _ => none }
def FnQuotedEndsAtFirstUnescapedQuoteWrongFalsely : Prop := fnQuotedEndsAtFirstUnescapedQuoteRow.holds Try.pinned (OpenSpec.ofChange fnQuotedEndsAtFirstUnescapedQuoteWrong)

/-- 'zzlaws_internal_flowlog_b1.FnQuotedPrefixAgreesUpToItsEnd': WHATEVER THE INPUT: true; the input reads as it did. -/
def fnQuotedPrefixAgreesUpToItsEndSpec : ChangeSpec := { name := "fnQuotedPrefixAgreesUpToItsEnd", fn := fun _ => fun
  | [d1, d2, d3] => { results := [.lit (.bool true)], args := [d1, d2, d3] }
  | _ => none }
def fnQuotedPrefixAgreesUpToItsEndRow : OpenClaim := { program := "qxb6619429a", sum := "476b915eae4780489f2fa4671844bc27221b66144e160ba2ac6c2e0e68de0c68", func := "example.com/via2/via2/zzlaws_internal_flowlog_b1.FnQuotedPrefixAgreesUpToItsEnd", spec := "fnQuotedPrefixAgreesUpToItsEnd", apart := false }
def FnQuotedPrefixAgreesUpToItsEndSaid : Prop := fnQuotedPrefixAgreesUpToItsEndRow.holds Try.pinned (OpenSpec.ofChange fnQuotedPrefixAgreesUpToItsEndSpec)

/-- ITS FALSE NEIGHBOUR: 'it returns false'. Refute it at one input. -/
def fnQuotedPrefixAgreesUpToItsEndWrong : ChangeSpec := { name := "fnQuotedPrefixAgreesUpToItsEnd", fn := fun _ => fun
  | [d1, d2, d3] => { results := [.lit (.bool false)], args := [d1, d2, d3] }
  | _ => none }
def FnQuotedPrefixAgreesUpToItsEndWrongFalsely : Prop := fnQuotedPrefixAgreesUpToItsEndRow.holds Try.pinned (OpenSpec.ofChange fnQuotedPrefixAgreesUpToItsEndWrong)

/-- 'zzlaws_internal_flowlog_b1.FnBlockCommentEndsAtFirstCloser': WHATEVER THE INPUT: true; the input reads as it did. -/
def fnBlockCommentEndsAtFirstCloserSpec : ChangeSpec := { name := "fnBlockCommentEndsAtFirstCloser", fn := fun _ => fun
  | [d1, d2, d3, d4, d5] => { results := [.lit (.bool true)], args := [d1, d2, d3, d4, d5] }
  | _ => none }
def fnBlockCommentEndsAtFirstCloserRow : OpenClaim := { program := "qxb6619429a", sum := "476b915eae4780489f2fa4671844bc27221b66144e160ba2ac6c2e0e68de0c68", func := "example.com/via2/via2/zzlaws_internal_flowlog_b1.FnBlockCommentEndsAtFirstCloser", spec := "fnBlockCommentEndsAtFirstCloser", inPlace := ["internal/bytealg.IndexByteString", "internal/bytealg.IndexString"], named := ["internal/bytealg.MaxLen"], apart := false }
def FnBlockCommentEndsAtFirstCloserSaid : Prop := fnBlockCommentEndsAtFirstCloserRow.holds Try.pinned (OpenSpec.ofChange fnBlockCommentEndsAtFirstCloserSpec)

/-- ITS FALSE NEIGHBOUR: 'it returns false'. Refute it at one input. -/
def fnBlockCommentEndsAtFirstCloserWrong : ChangeSpec := { name := "fnBlockCommentEndsAtFirstCloser", fn := fun _ => fun
  | [d1, d2, d3, d4, d5] => { results := [.lit (.bool false)], args := [d1, d2, d3, d4, d5] }
  | _ => none }
def FnBlockCommentEndsAtFirstCloserWrongFalsely : Prop := fnBlockCommentEndsAtFirstCloserRow.holds Try.pinned (OpenSpec.ofChange fnBlockCommentEndsAtFirstCloserWrong)

/-- 'zzlaws_internal_flowlog_b1.FnLineCommentEndsAtFirstLineEnd': WHATEVER THE INPUT: true; the input reads as it did. -/
def fnLineCommentEndsAtFirstLineEndSpec : ChangeSpec := { name := "fnLineCommentEndsAtFirstLineEnd", fn := fun _ => fun
  | [d1, d2, d3, d4, d5] => { results := [.lit (.bool true)], args := [d1, d2, d3, d4, d5] }
  | _ => none }
def fnLineCommentEndsAtFirstLineEndRow : OpenClaim := { program := "qxb6619429a", sum := "476b915eae4780489f2fa4671844bc27221b66144e160ba2ac6c2e0e68de0c68", func := "example.com/via2/via2/zzlaws_internal_flowlog_b1.FnLineCommentEndsAtFirstLineEnd", spec := "fnLineCommentEndsAtFirstLineEnd", inPlace := ["internal/bytealg.IndexByteString", "internal/bytealg.IndexString"], named := ["internal/bytealg.MaxLen"], apart := false }
def FnLineCommentEndsAtFirstLineEndSaid : Prop := fnLineCommentEndsAtFirstLineEndRow.holds Try.pinned (OpenSpec.ofChange fnLineCommentEndsAtFirstLineEndSpec)

/-- ITS FALSE NEIGHBOUR: 'it returns false'. Refute it at one input. -/
def fnLineCommentEndsAtFirstLineEndWrong : ChangeSpec := { name := "fnLineCommentEndsAtFirstLineEnd", fn := fun _ => fun
  | [d1, d2, d3, d4, d5] => { results := [.lit (.bool false)], args := [d1, d2, d3, d4, d5] }
  | _ => none }
def FnLineCommentEndsAtFirstLineEndWrongFalsely : Prop := fnLineCommentEndsAtFirstLineEndRow.holds Try.pinned (OpenSpec.ofChange fnLineCommentEndsAtFirstLineEndWrong)

end Rows
end Go.Proofs.Qxb6619429a
