/-
  No cell of these rows narrows 'for every input' (looked for: loops, veiled, ifaces, maps, wideKeys, modest, calm, conditions, laid).
  DERIVED. THE GIVEN ROWS OF THIS SEAT. 3 by the template 'for every input the law returns true; each argument reads behind the call as it read before'; 0 by the template 'total and deterministic' (their statements: Qxb6619249aTotals.lean).
  GIVEN WITH THE SEED: the statements are not yours to turn. If you find one false, say at which input.
  Laid BY PROGRAM, IN A SANDBOX (cutbox-rows.mjs): the forced cells as the released guide's own fill.sh prints them over the translation 052cbf97cb354131… (all of the seat's roots in one cut). By AI agents, Wed Nov 11 2026. No macro, syntax, notation, axiom, sorry.
-/
import Derived.Test.Qxb6619249aChecked
import GoSem.Claim
import GoSem.ClaimJoined
import GoSem.ClaimMapViews
import Derived.JoinedTies
import Derived.KernelRfl
namespace Go.Proofs.Qxb6619249a
/- THE CELL 'sum', in the pinned program and in every row, IS THE sha256 OF THE DUMP (.gsa) THAT Qxb6619249aProg.lean LOADS. Nothing in Lean hashes anything: it is a label: what it is worth is what the hold of that sum in a sandbox is worth. -/
noncomputable def Try.pinned : Pinned := { name := "qxb6619249a", sum := "052cbf97cb354131881917d4e474cb90667468334fb99d646f5686c46ca7c5db", checked := Try.checked }
namespace Rows
def none {H : Type} : Left H := { results := [], args := [] }

/-- 'zzlaws_decimal_b1.FnAllDigitsInsertAnyPlace': WHATEVER THE INPUT: true; the input reads as it did. -/
def fnAllDigitsInsertAnyPlaceSpec : ChangeSpec := { name := "fnAllDigitsInsertAnyPlace", fn := fun _ => fun
  | [d1, d2, d3] => { results := [.lit (.bool true)], args := [d1, d2, d3] }
  | _ => none }
def fnAllDigitsInsertAnyPlaceRow : OpenClaim := { program := "qxb6619249a", sum := "052cbf97cb354131881917d4e474cb90667468334fb99d646f5686c46ca7c5db", func := "example.com/fundcharter/fundcharter/zzlaws_decimal_b1.FnAllDigitsInsertAnyPlace", spec := "fnAllDigitsInsertAnyPlace", apart := false }
def FnAllDigitsInsertAnyPlaceSaid : Prop := fnAllDigitsInsertAnyPlaceRow.holds Try.pinned (OpenSpec.ofChange fnAllDigitsInsertAnyPlaceSpec)

/-- ITS FALSE NEIGHBOUR: 'it returns false'. Refute it at one input. -/
def fnAllDigitsInsertAnyPlaceWrong : ChangeSpec := { name := "fnAllDigitsInsertAnyPlace", fn := fun _ => fun
  | [d1, d2, d3] => { results := [.lit (.bool false)], args := [d1, d2, d3] }
  | _ => none }
def FnAllDigitsInsertAnyPlaceWrongFalsely : Prop := fnAllDigitsInsertAnyPlaceRow.holds Try.pinned (OpenSpec.ofChange fnAllDigitsInsertAnyPlaceWrong)

/-- 'zzlaws_decimal_b1.FnAbsIntIsMagnitude': WHATEVER THE INPUT: true; the input reads as it did. -/
def fnAbsIntIsMagnitudeSpec : ChangeSpec := { name := "fnAbsIntIsMagnitude", fn := fun _ => fun
  | [d] => { results := [.lit (.bool true)], args := [d] }
  | _ => none }
def fnAbsIntIsMagnitudeRow : OpenClaim := { program := "qxb6619249a", sum := "052cbf97cb354131881917d4e474cb90667468334fb99d646f5686c46ca7c5db", func := "example.com/fundcharter/fundcharter/zzlaws_decimal_b1.FnAbsIntIsMagnitude", spec := "fnAbsIntIsMagnitude", apart := false }
def FnAbsIntIsMagnitudeSaid : Prop := fnAbsIntIsMagnitudeRow.holds Try.pinned (OpenSpec.ofChange fnAbsIntIsMagnitudeSpec)

/-- ITS FALSE NEIGHBOUR: 'it returns false'. Refute it at one input. -/
def fnAbsIntIsMagnitudeWrong : ChangeSpec := { name := "fnAbsIntIsMagnitude", fn := fun _ => fun
  | [d] => { results := [.lit (.bool false)], args := [d] }
  | _ => none }
def FnAbsIntIsMagnitudeWrongFalsely : Prop := fnAbsIntIsMagnitudeRow.holds Try.pinned (OpenSpec.ofChange fnAbsIntIsMagnitudeWrong)

/-- 'zzlaws_decimal_b1.FnGcdGreatestAndScales': WHATEVER THE INPUT: true; the input reads as it did. -/
def fnGcdGreatestAndScalesSpec : ChangeSpec := { name := "fnGcdGreatestAndScales", fn := fun _ => fun
  | [d1, d2, d3, d4] => { results := [.lit (.bool true)], args := [d1, d2, d3, d4] }
  | _ => none }
def fnGcdGreatestAndScalesRow : OpenClaim := { program := "qxb6619249a", sum := "052cbf97cb354131881917d4e474cb90667468334fb99d646f5686c46ca7c5db", func := "example.com/fundcharter/fundcharter/zzlaws_decimal_b1.FnGcdGreatestAndScales", spec := "fnGcdGreatestAndScales", apart := false }
def FnGcdGreatestAndScalesSaid : Prop := fnGcdGreatestAndScalesRow.holds Try.pinned (OpenSpec.ofChange fnGcdGreatestAndScalesSpec)

/-- ITS FALSE NEIGHBOUR: 'it returns false'. Refute it at one input. -/
def fnGcdGreatestAndScalesWrong : ChangeSpec := { name := "fnGcdGreatestAndScales", fn := fun _ => fun
  | [d1, d2, d3, d4] => { results := [.lit (.bool false)], args := [d1, d2, d3, d4] }
  | _ => none }
def FnGcdGreatestAndScalesWrongFalsely : Prop := fnGcdGreatestAndScalesRow.holds Try.pinned (OpenSpec.ofChange fnGcdGreatestAndScalesWrong)

end Rows
end Go.Proofs.Qxb6619249a
