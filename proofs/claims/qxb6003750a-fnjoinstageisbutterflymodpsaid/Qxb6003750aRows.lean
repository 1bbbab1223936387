/-
  No cell of these rows narrows 'for every input' (looked for: loops, veiled, ifaces, maps, wideKeys, modest, calm, conditions, laid).
  DERIVED. THE GIVEN ROWS OF THIS SEAT. 3 by the template 'for every input the law returns true; each argument reads behind the call as it read before'; 0 by the template 'total and deterministic' (their statements: Qxb6003750aTotals.lean).
  GIVEN WITH THE SEED: the statements are not yours to turn. If you find one false, say at which input.
  Laid BY PROGRAM, IN A SANDBOX (cutbox-rows.mjs): the forced cells as the released guide's own fill.sh prints them over the translation 6cb105967b30f9bc… (all of the seat's roots in one cut). By AI agents, Wed Nov 11 2026. No macro, syntax, notation, axiom, sorry.
-/
import Derived.Test.Qxb6003750aChecked
import GoSem.Claim
import GoSem.ClaimJoined
import GoSem.ClaimMapViews
import Derived.JoinedTies
import Derived.KernelRfl
namespace Go.Proofs.Qxb6003750a
/- THE CELL 'sum', in the pinned program and in every row, IS THE sha256 OF THE DUMP (.gsa) THAT Qxb6003750aProg.lean LOADS. Nothing in Lean hashes anything: it is a label: what it is worth is what the hold of that sum in a sandbox is worth. -/
noncomputable def Try.pinned : Pinned := { name := "qxb6003750a", sum := "6cb105967b30f9bc9f02ad04a5a808c007b1ddac7829ce826afb630b3d043310", checked := Try.checked }
namespace Rows
def none {H : Type} : Left H := { results := [], args := [] }

/-- 'zzlaws_internal_bigconv_g2.FnAddModIsSumModP': WHATEVER THE INPUT: true; the input reads as it did. -/
def fnAddModIsSumModPSpec : ChangeSpec := { name := "fnAddModIsSumModP", fn := fun _ => fun
  | [d1, d2] => { results := [.lit (.bool true)], args := [d1, d2] }
  | _ => none }
def fnAddModIsSumModPRow : OpenClaim := { program := "qxb6003750a", sum := "6cb105967b30f9bc9f02ad04a5a808c007b1ddac7829ce826afb630b3d043310", func := "example.com/slash-dash/slash-dash/zzlaws_internal_bigconv_g2.FnAddModIsSumModP", spec := "fnAddModIsSumModP", inPlace := ["math/bits.Add64", "math/bits.Sub64"], apart := false }
def FnAddModIsSumModPSaid : Prop := fnAddModIsSumModPRow.holds Try.pinned (OpenSpec.ofChange fnAddModIsSumModPSpec)

/-- ITS FALSE NEIGHBOUR: 'it returns false'. Refute it at one input. -/
def fnAddModIsSumModPWrong : ChangeSpec := { name := "fnAddModIsSumModP", fn := fun _ => fun
  | [d1, d2] => { results := [.lit (.bool false)], args := [d1, d2] }
  | _ => none }
def FnAddModIsSumModPWrongFalsely : Prop := fnAddModIsSumModPRow.holds Try.pinned (OpenSpec.ofChange fnAddModIsSumModPWrong)

/-- 'zzlaws_internal_bigconv_g2.FnSubModIsDifferenceModP': WHATEVER THE INPUT: true; the input reads as it did. -/
def fnSubModIsDifferenceModPSpec : ChangeSpec := { name := "fnSubModIsDifferenceModP", fn := fun _ => fun
  | [d1, d2] => { results := [.lit (.bool true)], args := [d1, d2] }
  | _ => none }
def fnSubModIsDifferenceModPRow : OpenClaim := { program := "qxb6003750a", sum := "6cb105967b30f9bc9f02ad04a5a808c007b1ddac7829ce826afb630b3d043310", func := "example.com/slash-dash/slash-dash/zzlaws_internal_bigconv_g2.FnSubModIsDifferenceModP", spec := "fnSubModIsDifferenceModP", inPlace := ["math/bits.Sub64", "math/bits.Add64"], apart := false }
def FnSubModIsDifferenceModPSaid : Prop := fnSubModIsDifferenceModPRow.holds Try.pinned (OpenSpec.ofChange fnSubModIsDifferenceModPSpec)

/-- ITS FALSE NEIGHBOUR: 'it returns false'. Refute it at one input. -/
def fnSubModIsDifferenceModPWrong : ChangeSpec := { name := "fnSubModIsDifferenceModP", fn := fun _ => fun
  | [d1, d2] => { results := [.lit (.bool false)], args := [d1, d2] }
  | _ => none }
def FnSubModIsDifferenceModPWrongFalsely : Prop := fnSubModIsDifferenceModPRow.holds Try.pinned (OpenSpec.ofChange fnSubModIsDifferenceModPWrong)

/-- 'zzlaws_internal_bigconv_g2.FnJoinStageIsButterflyModP': WHATEVER THE INPUT: true; the input reads as it did. -/
def fnJoinStageIsButterflyModPSpec : ChangeSpec := { name := "fnJoinStageIsButterflyModP", fn := fun _ => fun
  | [d1, d2, d3] => { results := [.lit (.bool true)], args := [d1, d2, d3] }
  | _ => none }
def fnJoinStageIsButterflyModPRow : OpenClaim := { program := "qxb6003750a", sum := "6cb105967b30f9bc9f02ad04a5a808c007b1ddac7829ce826afb630b3d043310", func := "example.com/slash-dash/slash-dash/zzlaws_internal_bigconv_g2.FnJoinStageIsButterflyModP", spec := "fnJoinStageIsButterflyModP", inPlace := ["math/bits.Sub64", "math/bits.Add64"], apart := false }
def FnJoinStageIsButterflyModPSaid : Prop := fnJoinStageIsButterflyModPRow.holds Try.pinned (OpenSpec.ofChange fnJoinStageIsButterflyModPSpec)

/-- ITS FALSE NEIGHBOUR: 'it returns false'. Refute it at one input. -/
def fnJoinStageIsButterflyModPWrong : ChangeSpec := { name := "fnJoinStageIsButterflyModP", fn := fun _ => fun
  | [d1, d2, d3] => { results := [.lit (.bool false)], args := [d1, d2, d3] }
  | _ => none }
def FnJoinStageIsButterflyModPWrongFalsely : Prop := fnJoinStageIsButterflyModPRow.holds Try.pinned (OpenSpec.ofChange fnJoinStageIsButterflyModPWrong)

end Rows
end Go.Proofs.Qxb6003750a
