/-
  No cell of these rows narrows 'for every input' (looked for: loops, veiled, ifaces, maps, wideKeys, modest, calm, conditions, laid).
  DERIVED. THE GIVEN ROWS OF THIS SEAT. 3 by the template 'for every input the law returns true; each argument reads behind the call as it read before'; 0 by the template 'total and deterministic' (their statements: Qxb6003930aFmtTotals.lean).
  GIVEN WITH THE SEED: the statements are not yours to turn. If you find one false, say at which input.
  Laid BY PROGRAM, IN A SANDBOX (cutbox-rows.mjs): the forced cells as the released guide's own fill.sh prints them over the translation 46cc19c8d72efe10… (all of the seat's roots in one cut). By AI agents, Wed Nov 11 2026. No macro, syntax, notation, axiom, sorry.
-/
import Derived.Test.Qxb6003930aFmtChecked
import GoSem.Claim
import GoSem.ClaimJoined
import GoSem.ClaimMapViews
import Derived.JoinedTies
import Derived.KernelRfl
namespace Go.Proofs.Qxb6003930aFmt
/- THE CELL 'sum', in the pinned program and in every row, IS THE sha256 OF THE DUMP (.gsa) THAT Qxb6003930aFmtProg.lean LOADS. Nothing in Lean hashes anything: it is a label: what it is worth is what the hold of that sum in a sandbox is worth. -/
noncomputable def Tryf.pinned : Pinned := { name := "qxb6003930afmt", sum := "46cc19c8d72efe10bda71ebf770b64943beb5ae4cf36201cc1fd5d31897f6fe7", checked := Tryf.checked }
namespace Rows
def none {H : Type} : Left H := { results := [], args := [] }

/-- 'zzlaws_internal_sfv_g1.FnKeyAgreesWithAppendKey': WHATEVER THE INPUT: true; the input reads as it did. -/
def fnKeyAgreesWithAppendKeySpec : ChangeSpec := { name := "fnKeyAgreesWithAppendKey", fn := fun _ => fun
  | [d1, d2] => { results := [.lit (.bool true)], args := [d1, d2] }
  | _ => none }
def fnKeyAgreesWithAppendKeyRow : OpenClaim := { program := "qxb6003930afmt", sum := "46cc19c8d72efe10bda71ebf770b64943beb5ae4cf36201cc1fd5d31897f6fe7", func := "example.com/countersign/countersign/zzlaws_internal_sfv_g1.FnKeyAgreesWithAppendKey", spec := "fnKeyAgreesWithAppendKey", stops := ["fmt.Sprintf, its operands' methods called", "fmt.errorf, its operands' methods called"], inPlace := ["fmt.Sprintf", "fmt.errorf"], unfollowed := true, recurses := true, apart := false }
/-- NO THEOREM (fmt's text is open here; it may be false): for the released tool's asking of the row's closed facts alone. THE STATEMENT IS 'FnKeyAgreesWithAppendKeyToldSaid' (Qxb6003930aFmtCards.lean). -/
def FnKeyAgreesWithAppendKeyFormAsk : Prop := fnKeyAgreesWithAppendKeyRow.holds Tryf.pinned (OpenSpec.ofChange fnKeyAgreesWithAppendKeySpec)

/-- ITS FALSE NEIGHBOUR: 'it returns false'. Refute it at one input. -/
def fnKeyAgreesWithAppendKeyWrong : ChangeSpec := { name := "fnKeyAgreesWithAppendKey", fn := fun _ => fun
  | [d1, d2] => { results := [.lit (.bool false)], args := [d1, d2] }
  | _ => none }
def FnKeyAgreesWithAppendKeyWrongFormAsk : Prop := fnKeyAgreesWithAppendKeyRow.holds Tryf.pinned (OpenSpec.ofChange fnKeyAgreesWithAppendKeyWrong)

/-- 'zzlaws_internal_sfv_g1.FnSeparatorsExact': WHATEVER THE INPUT: true; the input reads as it did. -/
def fnSeparatorsExactSpec : ChangeSpec := { name := "fnSeparatorsExact", fn := fun _ => fun
  | [d] => { results := [.lit (.bool true)], args := [d] }
  | _ => none }
def fnSeparatorsExactRow : OpenClaim := { program := "qxb6003930afmt", sum := "46cc19c8d72efe10bda71ebf770b64943beb5ae4cf36201cc1fd5d31897f6fe7", func := "example.com/countersign/countersign/zzlaws_internal_sfv_g1.FnSeparatorsExact", spec := "fnSeparatorsExact", stops := ["fmt.Sprintf, its operands' methods called", "fmt.errorf, its operands' methods called"], inPlace := ["fmt.Sprintf", "fmt.errorf"], unfollowed := true, recurses := true, apart := false }
/-- NO THEOREM (fmt's text is open here; it may be false): for the released tool's asking of the row's closed facts alone. THE STATEMENT IS 'FnSeparatorsExactToldSaid' (Qxb6003930aFmtCards.lean). -/
def FnSeparatorsExactFormAsk : Prop := fnSeparatorsExactRow.holds Tryf.pinned (OpenSpec.ofChange fnSeparatorsExactSpec)

/-- ITS FALSE NEIGHBOUR: 'it returns false'. Refute it at one input. -/
def fnSeparatorsExactWrong : ChangeSpec := { name := "fnSeparatorsExact", fn := fun _ => fun
  | [d] => { results := [.lit (.bool false)], args := [d] }
  | _ => none }
def FnSeparatorsExactWrongFormAsk : Prop := fnSeparatorsExactRow.holds Tryf.pinned (OpenSpec.ofChange fnSeparatorsExactWrong)

/-- 'zzlaws_root_g1.FnPSSWeakeningKeepsAcceptance': WHATEVER THE INPUT: true; the input reads as it did. -/
def fnPSSWeakeningKeepsAcceptanceSpec : ChangeSpec := { name := "fnPSSWeakeningKeepsAcceptance", fn := fun _ => fun
  | [d1, d2, d3, d4, d5, d6] => { results := [.lit (.bool true)], args := [d1, d2, d3, d4, d5, d6] }
  | _ => none }
def fnPSSWeakeningKeepsAcceptanceRow : OpenClaim := { program := "qxb6003930afmt", sum := "46cc19c8d72efe10bda71ebf770b64943beb5ae4cf36201cc1fd5d31897f6fe7", func := "example.com/countersign/countersign/zzlaws_root_g1.FnPSSWeakeningKeepsAcceptance", spec := "fnPSSWeakeningKeepsAcceptance", stops := ["fmt.Sprintf, its operands' methods called", "fmt.errorf, its operands' methods called"], inPlace := ["fmt.errorf"], unfollowed := true, recurses := true, apart := false }
/-- NO THEOREM (fmt's text is open here; it may be false): for the released tool's asking of the row's closed facts alone. THE STATEMENT IS 'FnPSSWeakeningKeepsAcceptanceToldSaid' (Qxb6003930aFmtCards.lean). -/
def FnPSSWeakeningKeepsAcceptanceFormAsk : Prop := fnPSSWeakeningKeepsAcceptanceRow.holds Tryf.pinned (OpenSpec.ofChange fnPSSWeakeningKeepsAcceptanceSpec)

/-- ITS FALSE NEIGHBOUR: 'it returns false'. Refute it at one input. -/
def fnPSSWeakeningKeepsAcceptanceWrong : ChangeSpec := { name := "fnPSSWeakeningKeepsAcceptance", fn := fun _ => fun
  | [d1, d2, d3, d4, d5, d6] => { results := [.lit (.bool false)], args := [d1, d2, d3, d4, d5, d6] }
  | _ => none }
def FnPSSWeakeningKeepsAcceptanceWrongFormAsk : Prop := fnPSSWeakeningKeepsAcceptanceRow.holds Tryf.pinned (OpenSpec.ofChange fnPSSWeakeningKeepsAcceptanceWrong)

end Rows
end Go.Proofs.Qxb6003930aFmt
