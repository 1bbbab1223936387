/-
  DERIVED. GIVEN WITH THE SEED: THE CARDS: each row of Qxb6003873aFmtRows.lean that lists a variable, with what it lists TIED to the program's text (the seventh form; the later family's looks); each row that meets fmt, with fmt's text TOLD by the authors' own Lean function (tested against real Go, not proved from fmt's source: count such statements apart). THE CARD IS WHAT COUNTS. Prove the row's statement (the work); the ties are given (Qxb6003873aFmtTie.lean); close each card by the builder's one call (the guide's Derived/Test/ToyasCard.lean, 'card_holds'). Laid BY PROGRAM, IN A SANDBOX (cutbox-door.mjs). By AI agents, Wed Nov 11 2026. No macro, syntax, notation, axiom, sorry.
-/
import Derived.Test.Qxb6003873aFmtRows
import GoSem.ClaimSeven
namespace Go.Proofs.Qxb6003873aFmt
namespace Rows

/-- THE TOLD CARD OF 'zzlaws_internal_jsonview_g1.FnCheckEscapeRefusesExactlyLoneSurrogateEscapes'. -/
def fnCheckEscapeRefusesExactlyLoneSurrogateEscapesCard : Claim7 := { stood := { row := fnCheckEscapeRefusesExactlyLoneSurrogateEscapesRow, standIns := [], harness := (true, "c73868b6bee4d3a31a7c862a1d233524eb7cb2f54ca7b7ee09e13bc5103fad28"), looks := false }, told := true, goes := false }
def FnCheckEscapeRefusesExactlyLoneSurrogateEscapesToldSaid : Prop := Claim7.holds Tryf.pinned (.plain (OpenSpec.ofChange fnCheckEscapeRefusesExactlyLoneSurrogateEscapesSpec)) fnCheckEscapeRefusesExactlyLoneSurrogateEscapesCard
/-- ITS FALSE NEIGHBOUR. Refute it at one input. -/
def FnCheckEscapeRefusesExactlyLoneSurrogateEscapesToldWrongFalsely : Prop := Claim7.holds Tryf.pinned (.plain (OpenSpec.ofChange fnCheckEscapeRefusesExactlyLoneSurrogateEscapesWrong)) fnCheckEscapeRefusesExactlyLoneSurrogateEscapesCard

/-- THE TOLD AND TIED CARD OF 'zzlaws_internal_jsonview_g1.FnAppendStringOutputPassesEscapeCheck'. -/
def fnAppendStringOutputPassesEscapeCheckCard : Claim7 := { stood := { row := fnAppendStringOutputPassesEscapeCheckRow, standIns := [], harness := (true, "c73868b6bee4d3a31a7c862a1d233524eb7cb2f54ca7b7ee09e13bc5103fad28"), looks := false }, told := true, laidByText := true, laidKinds := [.data, .pinned], laidTests := true, laidLooks := .later, goes := false }
def FnAppendStringOutputPassesEscapeCheckToldSaid : Prop := Claim7.holds Tryf.pinned (.plain (OpenSpec.ofChange fnAppendStringOutputPassesEscapeCheckSpec)) fnAppendStringOutputPassesEscapeCheckCard
/-- ITS FALSE NEIGHBOUR. Refute it at one input. -/
def FnAppendStringOutputPassesEscapeCheckToldWrongFalsely : Prop := Claim7.holds Tryf.pinned (.plain (OpenSpec.ofChange fnAppendStringOutputPassesEscapeCheckWrong)) fnAppendStringOutputPassesEscapeCheckCard

/-- THE TOLD CARD OF 'zzlaws_internal_msgpack_g1.FnNumberRefusesExactlyShortAndReadsOnlyItsWindow'. -/
def fnNumberRefusesExactlyShortAndReadsOnlyItsWindowCard : Claim7 := { stood := { row := fnNumberRefusesExactlyShortAndReadsOnlyItsWindowRow, standIns := [], harness := (true, "c73868b6bee4d3a31a7c862a1d233524eb7cb2f54ca7b7ee09e13bc5103fad28"), looks := false }, told := true, goes := false }
def FnNumberRefusesExactlyShortAndReadsOnlyItsWindowToldSaid : Prop := Claim7.holds Tryf.pinned (.plain (OpenSpec.ofChange fnNumberRefusesExactlyShortAndReadsOnlyItsWindowSpec)) fnNumberRefusesExactlyShortAndReadsOnlyItsWindowCard
/-- ITS FALSE NEIGHBOUR. Refute it at one input. -/
def FnNumberRefusesExactlyShortAndReadsOnlyItsWindowToldWrongFalsely : Prop := Claim7.holds Tryf.pinned (.plain (OpenSpec.ofChange fnNumberRefusesExactlyShortAndReadsOnlyItsWindowWrong)) fnNumberRefusesExactlyShortAndReadsOnlyItsWindowCard

/-- THE TOLD CARD OF 'zzlaws_internal_msgpack_g1.FnNumberInvertsAppendBigEndian'. -/
def fnNumberInvertsAppendBigEndianCard : Claim7 := { stood := { row := fnNumberInvertsAppendBigEndianRow, standIns := [], harness := (true, "c73868b6bee4d3a31a7c862a1d233524eb7cb2f54ca7b7ee09e13bc5103fad28"), looks := false }, told := true, goes := false }
def FnNumberInvertsAppendBigEndianToldSaid : Prop := Claim7.holds Tryf.pinned (.plain (OpenSpec.ofChange fnNumberInvertsAppendBigEndianSpec)) fnNumberInvertsAppendBigEndianCard
/-- ITS FALSE NEIGHBOUR. Refute it at one input. -/
def FnNumberInvertsAppendBigEndianToldWrongFalsely : Prop := Claim7.holds Tryf.pinned (.plain (OpenSpec.ofChange fnNumberInvertsAppendBigEndianWrong)) fnNumberInvertsAppendBigEndianCard
end Rows
end Go.Proofs.Qxb6003873aFmt
