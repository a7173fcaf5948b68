/-
  No cell of these rows narrows 'for every input' (looked for: loops, veiled, ifaces, maps, wideKeys, modest, calm, conditions, laid).
  DERIVED. THE GIVEN ROWS OF THIS SEAT. 4 by the template 'for every input the law returns true; each argument reads behind the call as it read before'; 0 by the template 'total and deterministic' (their statements: Qxb6600795aTotals.lean).
  GIVEN WITH THE SEED: the statements are not yours to turn. If you find one false, say at which input.
  Laid BY PROGRAM, IN A SANDBOX (cutbox-rows.mjs): the forced cells as the released guide's own fill.sh prints them over the translation 27a53b9ba0fb0936… (all of the seat's roots in one cut). By AI agents, Wed Nov 11 2026. No macro, syntax, notation, axiom, sorry.
-/
import Derived.Test.Qxb6600795aChecked
import GoSem.Claim
import GoSem.ClaimJoined
import GoSem.ClaimMapViews
import Derived.JoinedTies
import Derived.KernelRfl
namespace Go.Proofs.Qxb6600795a
/- THE CELL 'sum', in the pinned program and in every row, IS THE sha256 OF THE DUMP (.gsa) THAT Qxb6600795aProg.lean LOADS. Nothing in Lean hashes anything: it is a label: what it is worth is what the hold of that sum in a sandbox is worth. -/
noncomputable def Try.pinned : Pinned := { name := "qxb6600795a", sum := "27a53b9ba0fb09361f3d7b6f16dcaf94f736e13a280248d01e701ad599cf63da", checked := Try.checked }
namespace Rows
def none {H : Type} : Left H := { results := [], args := [] }

/-- 'zzlaws_pkg_token_b1.FnSkipSpaceLandsOnFirstNonSpace': WHATEVER THE INPUT: true; the input reads as it did. -/
def fnSkipSpaceLandsOnFirstNonSpaceSpec : ChangeSpec := { name := "fnSkipSpaceLandsOnFirstNonSpace", fn := fun _ => fun
  | [d1, d2] => { results := [.lit (.bool true)], args := [d1, d2] }
  | _ => none }
def fnSkipSpaceLandsOnFirstNonSpaceRow : OpenClaim := { program := "qxb6600795a", sum := "27a53b9ba0fb09361f3d7b6f16dcaf94f736e13a280248d01e701ad599cf63da", func := "example.com/braidway/braidway/zzlaws_pkg_token_b1.FnSkipSpaceLandsOnFirstNonSpace", spec := "fnSkipSpaceLandsOnFirstNonSpace", inPlace := ["internal/bytealg.IndexByteString"], apart := false }
def FnSkipSpaceLandsOnFirstNonSpaceSaid : Prop := fnSkipSpaceLandsOnFirstNonSpaceRow.holds Try.pinned (OpenSpec.ofChange fnSkipSpaceLandsOnFirstNonSpaceSpec)

/-- ITS FALSE NEIGHBOUR: 'it returns false'. Refute it at one input. -/
def fnSkipSpaceLandsOnFirstNonSpaceWrong : ChangeSpec := { name := "fnSkipSpaceLandsOnFirstNonSpace", fn := fun _ => fun
  | [d1, d2] => { results := [.lit (.bool false)], args := [d1, d2] }
  | _ => none }
def FnSkipSpaceLandsOnFirstNonSpaceWrongFalsely : Prop := fnSkipSpaceLandsOnFirstNonSpaceRow.holds Try.pinned (OpenSpec.ofChange fnSkipSpaceLandsOnFirstNonSpaceWrong)

/-- 'zzlaws_pkg_token_b1.FnSkipSpaceIdempotentAndMonotone': WHATEVER THE INPUT: true; the input reads as it did. -/
def fnSkipSpaceIdempotentAndMonotoneSpec : ChangeSpec := { name := "fnSkipSpaceIdempotentAndMonotone", fn := fun _ => fun
  | [d1, d2, d3] => { results := [.lit (.bool true)], args := [d1, d2, d3] }
  | _ => none }
def fnSkipSpaceIdempotentAndMonotoneRow : OpenClaim := { program := "qxb6600795a", sum := "27a53b9ba0fb09361f3d7b6f16dcaf94f736e13a280248d01e701ad599cf63da", func := "example.com/braidway/braidway/zzlaws_pkg_token_b1.FnSkipSpaceIdempotentAndMonotone", spec := "fnSkipSpaceIdempotentAndMonotone", inPlace := ["internal/bytealg.IndexByteString"], apart := false }
def FnSkipSpaceIdempotentAndMonotoneSaid : Prop := fnSkipSpaceIdempotentAndMonotoneRow.holds Try.pinned (OpenSpec.ofChange fnSkipSpaceIdempotentAndMonotoneSpec)

/-- ITS FALSE NEIGHBOUR: 'it returns false'. Refute it at one input. -/
def fnSkipSpaceIdempotentAndMonotoneWrong : ChangeSpec := { name := "fnSkipSpaceIdempotentAndMonotone", fn := fun _ => fun
  | [d1, d2, d3] => { results := [.lit (.bool false)], args := [d1, d2, d3] }
  | _ => none }
def FnSkipSpaceIdempotentAndMonotoneWrongFalsely : Prop := fnSkipSpaceIdempotentAndMonotoneRow.holds Try.pinned (OpenSpec.ofChange fnSkipSpaceIdempotentAndMonotoneWrong)

/-- 'zzlaws_pkg_token_b1.FnSkipStringEndsAtFirstUnescapedQuote': WHATEVER THE INPUT: true; the input reads as it did. -/
def fnSkipStringEndsAtFirstUnescapedQuoteSpec : ChangeSpec := { name := "fnSkipStringEndsAtFirstUnescapedQuote", fn := fun _ => fun
  | [d1, d2] => { results := [.lit (.bool true)], args := [d1, d2] }
  | _ => none }
def fnSkipStringEndsAtFirstUnescapedQuoteRow : OpenClaim := { program := "qxb6600795a", sum := "27a53b9ba0fb09361f3d7b6f16dcaf94f736e13a280248d01e701ad599cf63da", func := "example.com/braidway/braidway/zzlaws_pkg_token_b1.FnSkipStringEndsAtFirstUnescapedQuote", spec := "fnSkipStringEndsAtFirstUnescapedQuote", apart := false }
def FnSkipStringEndsAtFirstUnescapedQuoteSaid : Prop := fnSkipStringEndsAtFirstUnescapedQuoteRow.holds Try.pinned (OpenSpec.ofChange fnSkipStringEndsAtFirstUnescapedQuoteSpec)

/-- ITS FALSE NEIGHBOUR: 'it returns false'. Refute it at one input. -/
def fnSkipStringEndsAtFirstUnescapedQuoteWrong : ChangeSpec := { name := "fnSkipStringEndsAtFirstUnescapedQuote", fn := fun _ => fun
  | [d1, d2] => { results := [.lit (.bool false)], args := [d1, d2] }
  | _ => none }
def FnSkipStringEndsAtFirstUnescapedQuoteWrongFalsely : Prop := fnSkipStringEndsAtFirstUnescapedQuoteRow.holds Try.pinned (OpenSpec.ofChange fnSkipStringEndsAtFirstUnescapedQuoteWrong)

/-- 'zzlaws_pkg_token_b1.FnSkipStringSkipsAnEscapedText': WHATEVER THE INPUT: true; the input reads as it did. -/
def fnSkipStringSkipsAnEscapedTextSpec : ChangeSpec := { name := "fnSkipStringSkipsAnEscapedText", fn := fun _ => fun
  | [d1, d2, d3] => { results := [.lit (.bool true)], args := [d1, d2, d3] }
  | _ => none }
def fnSkipStringSkipsAnEscapedTextRow : OpenClaim := { program := "qxb6600795a", sum := "27a53b9ba0fb09361f3d7b6f16dcaf94f736e13a280248d01e701ad599cf63da", func := "example.com/braidway/braidway/zzlaws_pkg_token_b1.FnSkipStringSkipsAnEscapedText", spec := "fnSkipStringSkipsAnEscapedText", apart := false }
def FnSkipStringSkipsAnEscapedTextSaid : Prop := fnSkipStringSkipsAnEscapedTextRow.holds Try.pinned (OpenSpec.ofChange fnSkipStringSkipsAnEscapedTextSpec)

/-- ITS FALSE NEIGHBOUR: 'it returns false'. Refute it at one input. -/
def fnSkipStringSkipsAnEscapedTextWrong : ChangeSpec := { name := "fnSkipStringSkipsAnEscapedText", fn := fun _ => fun
  | [d1, d2, d3] => { results := [.lit (.bool false)], args := [d1, d2, d3] }
  | _ => none }
def FnSkipStringSkipsAnEscapedTextWrongFalsely : Prop := fnSkipStringSkipsAnEscapedTextRow.holds Try.pinned (OpenSpec.ofChange fnSkipStringSkipsAnEscapedTextWrong)

end Rows
end Go.Proofs.Qxb6600795a
