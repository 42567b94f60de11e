/-
  No cell of these rows narrows 'for every input' (looked for: loops, veiled, ifaces, maps, wideKeys, modest, calm, conditions, laid).
  DERIVED. THE GIVEN ROWS OF THIS SEAT. 5 by the template 'for every input the law returns true; each argument reads behind the call as it read before'; 0 by the template 'total and deterministic' (their statements: Qxb6602361aTotals.lean).
  GIVEN WITH THE SEED: the statements are not yours to turn. If you find one false, say at which input.
  Laid BY PROGRAM, IN A SANDBOX (cutbox-rows.mjs): the forced cells as the released guide's own fill.sh prints them over the translation 9420791f61f310a0… (all of the seat's roots in one cut). By AI agents, Wed Nov 11 2026. No macro, syntax, notation, axiom, sorry.
-/
import Derived.Test.Qxb6602361aChecked
import GoSem.Claim
import GoSem.ClaimJoined
import GoSem.ClaimMapViews
import Derived.JoinedTies
import Derived.KernelRfl
namespace Go.Proofs.Qxb6602361a
/- THE CELL 'sum', in the pinned program and in every row, IS THE sha256 OF THE DUMP (.gsa) THAT Qxb6602361aProg.lean LOADS. Nothing in Lean hashes anything: it is a label: what it is worth is what the hold of that sum in a sandbox is worth. -/
noncomputable def Try.pinned : Pinned := { name := "qxb6602361a", sum := "9420791f61f310a04d1ce6459c7921062a4ae738713d79a0322f440e0e19f358", checked := Try.checked }
namespace Rows
def none {H : Type} : Left H := { results := [], args := [] }

/-- 'zzlaws_internal_resp_b1.FnUnhexMatchesDigitTables': WHATEVER THE INPUT: true; the input reads as it did. -/
def fnUnhexMatchesDigitTablesSpec : ChangeSpec := { name := "fnUnhexMatchesDigitTables", fn := fun _ => fun
  | [d] => { results := [.lit (.bool true)], args := [d] }
  | _ => none }
def fnUnhexMatchesDigitTablesRow : OpenClaim := { program := "qxb6602361a", sum := "9420791f61f310a04d1ce6459c7921062a4ae738713d79a0322f440e0e19f358", func := "example.com/wakeline/wakeline/zzlaws_internal_resp_b1.FnUnhexMatchesDigitTables", spec := "fnUnhexMatchesDigitTables", apart := false }
def FnUnhexMatchesDigitTablesSaid : Prop := fnUnhexMatchesDigitTablesRow.holds Try.pinned (OpenSpec.ofChange fnUnhexMatchesDigitTablesSpec)

/-- ITS FALSE NEIGHBOUR: 'it returns false'. Refute it at one input. -/
def fnUnhexMatchesDigitTablesWrong : ChangeSpec := { name := "fnUnhexMatchesDigitTables", fn := fun _ => fun
  | [d] => { results := [.lit (.bool false)], args := [d] }
  | _ => none }
def FnUnhexMatchesDigitTablesWrongFalsely : Prop := fnUnhexMatchesDigitTablesRow.holds Try.pinned (OpenSpec.ofChange fnUnhexMatchesDigitTablesWrong)

/-- 'zzlaws_internal_resp_b1.FnUnhexReadsBackRenderedByte': WHATEVER THE INPUT: true; the input reads as it did. -/
def fnUnhexReadsBackRenderedByteSpec : ChangeSpec := { name := "fnUnhexReadsBackRenderedByte", fn := fun _ => fun
  | [d1, d2, d3] => { results := [.lit (.bool true)], args := [d1, d2, d3] }
  | _ => none }
def fnUnhexReadsBackRenderedByteRow : OpenClaim := { program := "qxb6602361a", sum := "9420791f61f310a04d1ce6459c7921062a4ae738713d79a0322f440e0e19f358", func := "example.com/wakeline/wakeline/zzlaws_internal_resp_b1.FnUnhexReadsBackRenderedByte", spec := "fnUnhexReadsBackRenderedByte", apart := false }
def FnUnhexReadsBackRenderedByteSaid : Prop := fnUnhexReadsBackRenderedByteRow.holds Try.pinned (OpenSpec.ofChange fnUnhexReadsBackRenderedByteSpec)

/-- ITS FALSE NEIGHBOUR: 'it returns false'. Refute it at one input. -/
def fnUnhexReadsBackRenderedByteWrong : ChangeSpec := { name := "fnUnhexReadsBackRenderedByte", fn := fun _ => fun
  | [d1, d2, d3] => { results := [.lit (.bool false)], args := [d1, d2, d3] }
  | _ => none }
def FnUnhexReadsBackRenderedByteWrongFalsely : Prop := fnUnhexReadsBackRenderedByteRow.holds Try.pinned (OpenSpec.ofChange fnUnhexReadsBackRenderedByteWrong)

/-- 'zzlaws_internal_resp_b1.FnUnescapeReadsBackEscapedByte': WHATEVER THE INPUT: true; the input reads as it did. -/
def fnUnescapeReadsBackEscapedByteSpec : ChangeSpec := { name := "fnUnescapeReadsBackEscapedByte", fn := fun _ => fun
  | [d1, d2, d3, d4, d5, d6] => { results := [.lit (.bool true)], args := [d1, d2, d3, d4, d5, d6] }
  | _ => none }
def fnUnescapeReadsBackEscapedByteRow : OpenClaim := { program := "qxb6602361a", sum := "9420791f61f310a04d1ce6459c7921062a4ae738713d79a0322f440e0e19f358", func := "example.com/wakeline/wakeline/zzlaws_internal_resp_b1.FnUnescapeReadsBackEscapedByte", spec := "fnUnescapeReadsBackEscapedByte", apart := false }
def FnUnescapeReadsBackEscapedByteSaid : Prop := fnUnescapeReadsBackEscapedByteRow.holds Try.pinned (OpenSpec.ofChange fnUnescapeReadsBackEscapedByteSpec)

/-- ITS FALSE NEIGHBOUR: 'it returns false'. Refute it at one input. -/
def fnUnescapeReadsBackEscapedByteWrong : ChangeSpec := { name := "fnUnescapeReadsBackEscapedByte", fn := fun _ => fun
  | [d1, d2, d3, d4, d5, d6] => { results := [.lit (.bool false)], args := [d1, d2, d3, d4, d5, d6] }
  | _ => none }
def FnUnescapeReadsBackEscapedByteWrongFalsely : Prop := fnUnescapeReadsBackEscapedByteRow.holds Try.pinned (OpenSpec.ofChange fnUnescapeReadsBackEscapedByteWrong)

/-- 'zzlaws_internal_resp_b1.FnUnquoteMatchesOutOfPlaceDecoder': WHATEVER THE INPUT: true; the input reads as it did. -/
def fnUnquoteMatchesOutOfPlaceDecoderSpec : ChangeSpec := { name := "fnUnquoteMatchesOutOfPlaceDecoder", fn := fun _ => fun
  | [d1, d2, d3, d4] => { results := [.lit (.bool true)], args := [d1, d2, d3, d4] }
  | _ => none }
def fnUnquoteMatchesOutOfPlaceDecoderRow : OpenClaim := { program := "qxb6602361a", sum := "9420791f61f310a04d1ce6459c7921062a4ae738713d79a0322f440e0e19f358", func := "example.com/wakeline/wakeline/zzlaws_internal_resp_b1.FnUnquoteMatchesOutOfPlaceDecoder", spec := "fnUnquoteMatchesOutOfPlaceDecoder", apart := false }
def FnUnquoteMatchesOutOfPlaceDecoderSaid : Prop := fnUnquoteMatchesOutOfPlaceDecoderRow.holds Try.pinned (OpenSpec.ofChange fnUnquoteMatchesOutOfPlaceDecoderSpec)

/-- ITS FALSE NEIGHBOUR: 'it returns false'. Refute it at one input. -/
def fnUnquoteMatchesOutOfPlaceDecoderWrong : ChangeSpec := { name := "fnUnquoteMatchesOutOfPlaceDecoder", fn := fun _ => fun
  | [d1, d2, d3, d4] => { results := [.lit (.bool false)], args := [d1, d2, d3, d4] }
  | _ => none }
def FnUnquoteMatchesOutOfPlaceDecoderWrongFalsely : Prop := fnUnquoteMatchesOutOfPlaceDecoderRow.holds Try.pinned (OpenSpec.ofChange fnUnquoteMatchesOutOfPlaceDecoderWrong)

/-- 'zzlaws_internal_resp_b1.FnUnquoteInvertsDoubleQuoting': WHATEVER THE INPUT: true; the input reads as it did. -/
def fnUnquoteInvertsDoubleQuotingSpec : ChangeSpec := { name := "fnUnquoteInvertsDoubleQuoting", fn := fun _ => fun
  | [d1, d2, d3, d4, d5, d6] => { results := [.lit (.bool true)], args := [d1, d2, d3, d4, d5, d6] }
  | _ => none }
def fnUnquoteInvertsDoubleQuotingRow : OpenClaim := { program := "qxb6602361a", sum := "9420791f61f310a04d1ce6459c7921062a4ae738713d79a0322f440e0e19f358", func := "example.com/wakeline/wakeline/zzlaws_internal_resp_b1.FnUnquoteInvertsDoubleQuoting", spec := "fnUnquoteInvertsDoubleQuoting", apart := false }
def FnUnquoteInvertsDoubleQuotingSaid : Prop := fnUnquoteInvertsDoubleQuotingRow.holds Try.pinned (OpenSpec.ofChange fnUnquoteInvertsDoubleQuotingSpec)

/-- ITS FALSE NEIGHBOUR: 'it returns false'. Refute it at one input. -/
def fnUnquoteInvertsDoubleQuotingWrong : ChangeSpec := { name := "fnUnquoteInvertsDoubleQuoting", fn := fun _ => fun
  | [d1, d2, d3, d4, d5, d6] => { results := [.lit (.bool false)], args := [d1, d2, d3, d4, d5, d6] }
  | _ => none }
def FnUnquoteInvertsDoubleQuotingWrongFalsely : Prop := fnUnquoteInvertsDoubleQuotingRow.holds Try.pinned (OpenSpec.ofChange fnUnquoteInvertsDoubleQuotingWrong)

end Rows
end Go.Proofs.Qxb6602361a
