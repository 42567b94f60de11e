/-
  No cell of these rows narrows 'for every input' (looked for: loops, veiled, ifaces, maps, wideKeys, modest, calm, conditions, laid).
  DERIVED. THE GIVEN ROWS OF THIS SEAT. 3 by the template 'for every input the law returns true; each argument reads behind the call as it read before'; 0 by the template 'total and deterministic' (their statements: Qxb6600059aTotals.lean).
  GIVEN WITH THE SEED: the statements are not yours to turn. If you find one false, say at which input.
  Laid BY PROGRAM, IN A SANDBOX (cutbox-rows.mjs): the forced cells as the released guide's own fill.sh prints them over the translation cce0bc10f9a45d51… (all of the seat's roots in one cut). By AI agents, Wed Nov 11 2026. No macro, syntax, notation, axiom, sorry.
-/
import Derived.Test.Qxb6600059aChecked
import GoSem.Claim
import GoSem.ClaimJoined
import GoSem.ClaimMapViews
import Derived.JoinedTies
import Derived.KernelRfl
namespace Go.Proofs.Qxb6600059a
/- THE CELL 'sum', in the pinned program and in every row, IS THE sha256 OF THE DUMP (.gsa) THAT Qxb6600059aProg.lean LOADS. Nothing in Lean hashes anything: it is a label: what it is worth is what the hold of that sum in a sandbox is worth. -/
noncomputable def Try.pinned : Pinned := { name := "qxb6600059a", sum := "cce0bc10f9a45d51233a4eff79687be3f65c0d11d7d792c88c8fbc04f8d8dc37", checked := Try.checked }
namespace Rows
def none {H : Type} : Left H := { results := [], args := [] }

/-- 'zzlaws_internal_rfc3339_b1.FnCutShapeTakesEveryInstance': WHATEVER THE INPUT: true; the input reads as it did. -/
def fnCutShapeTakesEveryInstanceSpec : ChangeSpec := { name := "fnCutShapeTakesEveryInstance", fn := fun _ => fun
  | [d1, d2, d3] => { results := [.lit (.bool true)], args := [d1, d2, d3] }
  | _ => none }
def fnCutShapeTakesEveryInstanceRow : OpenClaim := { program := "qxb6600059a", sum := "cce0bc10f9a45d51233a4eff79687be3f65c0d11d7d792c88c8fbc04f8d8dc37", func := "example.com/gard/gard/zzlaws_internal_rfc3339_b1.FnCutShapeTakesEveryInstance", spec := "fnCutShapeTakesEveryInstance", apart := false }
def FnCutShapeTakesEveryInstanceSaid : Prop := fnCutShapeTakesEveryInstanceRow.holds Try.pinned (OpenSpec.ofChange fnCutShapeTakesEveryInstanceSpec)

/-- ITS FALSE NEIGHBOUR: 'it returns false'. Refute it at one input. -/
def fnCutShapeTakesEveryInstanceWrong : ChangeSpec := { name := "fnCutShapeTakesEveryInstance", fn := fun _ => fun
  | [d1, d2, d3] => { results := [.lit (.bool false)], args := [d1, d2, d3] }
  | _ => none }
def FnCutShapeTakesEveryInstanceWrongFalsely : Prop := fnCutShapeTakesEveryInstanceRow.holds Try.pinned (OpenSpec.ofChange fnCutShapeTakesEveryInstanceWrong)

/-- 'zzlaws_internal_rfc3339_b1.FnCutShapeSplitsOverConcatenation': WHATEVER THE INPUT: true; the input reads as it did. -/
def fnCutShapeSplitsOverConcatenationSpec : ChangeSpec := { name := "fnCutShapeSplitsOverConcatenation", fn := fun _ => fun
  | [d1, d2, d3] => { results := [.lit (.bool true)], args := [d1, d2, d3] }
  | _ => none }
def fnCutShapeSplitsOverConcatenationRow : OpenClaim := { program := "qxb6600059a", sum := "cce0bc10f9a45d51233a4eff79687be3f65c0d11d7d792c88c8fbc04f8d8dc37", func := "example.com/gard/gard/zzlaws_internal_rfc3339_b1.FnCutShapeSplitsOverConcatenation", spec := "fnCutShapeSplitsOverConcatenation", apart := false }
def FnCutShapeSplitsOverConcatenationSaid : Prop := fnCutShapeSplitsOverConcatenationRow.holds Try.pinned (OpenSpec.ofChange fnCutShapeSplitsOverConcatenationSpec)

/-- ITS FALSE NEIGHBOUR: 'it returns false'. Refute it at one input. -/
def fnCutShapeSplitsOverConcatenationWrong : ChangeSpec := { name := "fnCutShapeSplitsOverConcatenation", fn := fun _ => fun
  | [d1, d2, d3] => { results := [.lit (.bool false)], args := [d1, d2, d3] }
  | _ => none }
def FnCutShapeSplitsOverConcatenationWrongFalsely : Prop := fnCutShapeSplitsOverConcatenationRow.holds Try.pinned (OpenSpec.ofChange fnCutShapeSplitsOverConcatenationWrong)

/-- 'zzlaws_internal_rfc3339_b1.FnCutShapeRefusesOneWrongByte': WHATEVER THE INPUT: true; the input reads as it did. -/
def fnCutShapeRefusesOneWrongByteSpec : ChangeSpec := { name := "fnCutShapeRefusesOneWrongByte", fn := fun _ => fun
  | [d1, d2, d3, d4, d5] => { results := [.lit (.bool true)], args := [d1, d2, d3, d4, d5] }
  | _ => none }
def fnCutShapeRefusesOneWrongByteRow : OpenClaim := { program := "qxb6600059a", sum := "cce0bc10f9a45d51233a4eff79687be3f65c0d11d7d792c88c8fbc04f8d8dc37", func := "example.com/gard/gard/zzlaws_internal_rfc3339_b1.FnCutShapeRefusesOneWrongByte", spec := "fnCutShapeRefusesOneWrongByte", apart := false }
def FnCutShapeRefusesOneWrongByteSaid : Prop := fnCutShapeRefusesOneWrongByteRow.holds Try.pinned (OpenSpec.ofChange fnCutShapeRefusesOneWrongByteSpec)

/-- ITS FALSE NEIGHBOUR: 'it returns false'. Refute it at one input. -/
def fnCutShapeRefusesOneWrongByteWrong : ChangeSpec := { name := "fnCutShapeRefusesOneWrongByte", fn := fun _ => fun
  | [d1, d2, d3, d4, d5] => { results := [.lit (.bool false)], args := [d1, d2, d3, d4, d5] }
  | _ => none }
def FnCutShapeRefusesOneWrongByteWrongFalsely : Prop := fnCutShapeRefusesOneWrongByteRow.holds Try.pinned (OpenSpec.ofChange fnCutShapeRefusesOneWrongByteWrong)

end Rows
end Go.Proofs.Qxb6600059a
