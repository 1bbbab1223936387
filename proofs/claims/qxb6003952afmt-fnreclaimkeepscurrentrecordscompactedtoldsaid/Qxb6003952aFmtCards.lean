/-
  DERIVED. GIVEN WITH THE SEED: THE CARDS: each row of Qxb6003952aFmtRows.lean that lists a variable, with what it lists TIED to the program's text (the seventh form; the later family's looks); each row that meets fmt, with fmt's text TOLD by the authors' own Lean function (tested against real Go, not proved from fmt's source: count such statements apart). THE CARD IS WHAT COUNTS. Prove the row's statement (the work); the ties are given (Qxb6003952aFmtTie.lean); close each card by the builder's one call (the guide's Derived/Test/ToyasCard.lean, 'card_holds'). Laid BY PROGRAM, IN A SANDBOX (cutbox-door.mjs). By AI agents, Wed Nov 11 2026. No macro, syntax, notation, axiom, sorry.
-/
import Derived.Test.Qxb6003952aFmtRows
import GoSem.ClaimSeven
namespace Go.Proofs.Qxb6003952aFmt
namespace Rows

/-- THE TOLD AND TIED CARD OF 'zzlaws_bootfile_g1.FnCommentStopsAtLineEnd'. -/
def fnCommentStopsAtLineEndCard : Claim7 := { stood := { row := fnCommentStopsAtLineEndRow, standIns := [], harness := (true, "a2906bab018f99cd8d09530bda8dd0ff4636b31a6051499f1e435ea69c1187ca"), looks := false }, told := true, laidByText := true, laidKinds := [.data, .pinned], laidTests := true, laidLooks := .later, goes := false }
def FnCommentStopsAtLineEndToldSaid : Prop := Claim7.holds Tryf.pinned (.plain (OpenSpec.ofChange fnCommentStopsAtLineEndSpec)) fnCommentStopsAtLineEndCard
/-- ITS FALSE NEIGHBOUR. Refute it at one input. -/
def FnCommentStopsAtLineEndToldWrongFalsely : Prop := Claim7.holds Tryf.pinned (.plain (OpenSpec.ofChange fnCommentStopsAtLineEndWrong)) fnCommentStopsAtLineEndCard

/-- THE TOLD AND TIED CARD OF 'zzlaws_bootfile_g1.FnEndOfLineAcceptsBlanksAndComment'. -/
def fnEndOfLineAcceptsBlanksAndCommentCard : Claim7 := { stood := { row := fnEndOfLineAcceptsBlanksAndCommentRow, standIns := [], harness := (true, "a2906bab018f99cd8d09530bda8dd0ff4636b31a6051499f1e435ea69c1187ca"), looks := false }, told := true, laidByText := true, laidKinds := [.data, .pinned], laidTests := true, laidLooks := .later, goes := false }
def FnEndOfLineAcceptsBlanksAndCommentToldSaid : Prop := Claim7.holds Tryf.pinned (.plain (OpenSpec.ofChange fnEndOfLineAcceptsBlanksAndCommentSpec)) fnEndOfLineAcceptsBlanksAndCommentCard
/-- ITS FALSE NEIGHBOUR. Refute it at one input. -/
def FnEndOfLineAcceptsBlanksAndCommentToldWrongFalsely : Prop := Claim7.holds Tryf.pinned (.plain (OpenSpec.ofChange fnEndOfLineAcceptsBlanksAndCommentWrong)) fnEndOfLineAcceptsBlanksAndCommentCard

/-- THE TOLD AND TIED CARD OF 'zzlaws_efi_g1.FnTextArgsSplitsExactly'. -/
def fnTextArgsSplitsExactlyCard : Claim7 := { stood := { row := fnTextArgsSplitsExactlyRow, standIns := [], harness := (true, "a2906bab018f99cd8d09530bda8dd0ff4636b31a6051499f1e435ea69c1187ca"), looks := false }, told := true, laidByText := true, laidKinds := [.data, .pinned], laidTests := true, laidLooks := .later, goes := false }
def FnTextArgsSplitsExactlyToldSaid : Prop := Claim7.holds Tryf.pinned (.plain (OpenSpec.ofChange fnTextArgsSplitsExactlySpec)) fnTextArgsSplitsExactlyCard
/-- ITS FALSE NEIGHBOUR. Refute it at one input. -/
def FnTextArgsSplitsExactlyToldWrongFalsely : Prop := Claim7.holds Tryf.pinned (.plain (OpenSpec.ofChange fnTextArgsSplitsExactlyWrong)) fnTextArgsSplitsExactlyCard

/-- THE TOLD CARD OF 'zzlaws_varstore_g1.FnReclaimKeepsCurrentRecordsCompacted'. -/
def fnReclaimKeepsCurrentRecordsCompactedCard : Claim7 := { stood := { row := fnReclaimKeepsCurrentRecordsCompactedRow, standIns := [], harness := (true, "a2906bab018f99cd8d09530bda8dd0ff4636b31a6051499f1e435ea69c1187ca"), looks := false }, told := true, goes := false }
def FnReclaimKeepsCurrentRecordsCompactedToldSaid : Prop := Claim7.holds Tryf.pinned (.plain (OpenSpec.ofChange fnReclaimKeepsCurrentRecordsCompactedSpec)) fnReclaimKeepsCurrentRecordsCompactedCard
/-- ITS FALSE NEIGHBOUR. Refute it at one input. -/
def FnReclaimKeepsCurrentRecordsCompactedToldWrongFalsely : Prop := Claim7.holds Tryf.pinned (.plain (OpenSpec.ofChange fnReclaimKeepsCurrentRecordsCompactedWrong)) fnReclaimKeepsCurrentRecordsCompactedCard
end Rows
end Go.Proofs.Qxb6003952aFmt
