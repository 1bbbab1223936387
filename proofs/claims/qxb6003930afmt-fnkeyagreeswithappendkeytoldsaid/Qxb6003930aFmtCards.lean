/-
  DERIVED. GIVEN WITH THE SEED: THE CARDS: each row of Qxb6003930aFmtRows.lean that lists a variable, with what it lists TIED to the program's text (the seventh form; the later family's looks); each row that meets fmt, with fmt's text TOLD by the authors' own Lean function (tested against real Go, not proved from fmt's source: count such statements apart). THE CARD IS WHAT COUNTS. Prove the row's statement (the work); the ties are given (Qxb6003930aFmtTie.lean); close each card by the builder's one call (the guide's Derived/Test/ToyasCard.lean, 'card_holds'). Laid BY PROGRAM, IN A SANDBOX (cutbox-door.mjs). By AI agents, Wed Nov 11 2026. No macro, syntax, notation, axiom, sorry.
-/
import Derived.Test.Qxb6003930aFmtRows
import GoSem.ClaimSeven
namespace Go.Proofs.Qxb6003930aFmt
namespace Rows

/-- THE TOLD CARD OF 'zzlaws_internal_sfv_g1.FnKeyAgreesWithAppendKey'. -/
def fnKeyAgreesWithAppendKeyCard : Claim7 := { stood := { row := fnKeyAgreesWithAppendKeyRow, standIns := [], harness := (true, "3e4a9a84b62626d0e02ce2e9a5eb04c05e3e7c976605d5d0b352b364bf739e36"), looks := false }, told := true, goes := false }
def FnKeyAgreesWithAppendKeyToldSaid : Prop := Claim7.holds Tryf.pinned (.plain (OpenSpec.ofChange fnKeyAgreesWithAppendKeySpec)) fnKeyAgreesWithAppendKeyCard
/-- ITS FALSE NEIGHBOUR. Refute it at one input. -/
def FnKeyAgreesWithAppendKeyToldWrongFalsely : Prop := Claim7.holds Tryf.pinned (.plain (OpenSpec.ofChange fnKeyAgreesWithAppendKeyWrong)) fnKeyAgreesWithAppendKeyCard

/-- THE TOLD CARD OF 'zzlaws_internal_sfv_g1.FnSeparatorsExact'. -/
def fnSeparatorsExactCard : Claim7 := { stood := { row := fnSeparatorsExactRow, standIns := [], harness := (true, "3e4a9a84b62626d0e02ce2e9a5eb04c05e3e7c976605d5d0b352b364bf739e36"), looks := false }, told := true, goes := false }
def FnSeparatorsExactToldSaid : Prop := Claim7.holds Tryf.pinned (.plain (OpenSpec.ofChange fnSeparatorsExactSpec)) fnSeparatorsExactCard
/-- ITS FALSE NEIGHBOUR. Refute it at one input. -/
def FnSeparatorsExactToldWrongFalsely : Prop := Claim7.holds Tryf.pinned (.plain (OpenSpec.ofChange fnSeparatorsExactWrong)) fnSeparatorsExactCard

/-- THE TOLD CARD OF 'zzlaws_root_g1.FnPSSWeakeningKeepsAcceptance'. -/
def fnPSSWeakeningKeepsAcceptanceCard : Claim7 := { stood := { row := fnPSSWeakeningKeepsAcceptanceRow, standIns := [], harness := (true, "3e4a9a84b62626d0e02ce2e9a5eb04c05e3e7c976605d5d0b352b364bf739e36"), looks := false }, told := true, goes := false }
def FnPSSWeakeningKeepsAcceptanceToldSaid : Prop := Claim7.holds Tryf.pinned (.plain (OpenSpec.ofChange fnPSSWeakeningKeepsAcceptanceSpec)) fnPSSWeakeningKeepsAcceptanceCard
/-- ITS FALSE NEIGHBOUR. Refute it at one input. -/
def FnPSSWeakeningKeepsAcceptanceToldWrongFalsely : Prop := Claim7.holds Tryf.pinned (.plain (OpenSpec.ofChange fnPSSWeakeningKeepsAcceptanceWrong)) fnPSSWeakeningKeepsAcceptanceCard
end Rows
end Go.Proofs.Qxb6003930aFmt
