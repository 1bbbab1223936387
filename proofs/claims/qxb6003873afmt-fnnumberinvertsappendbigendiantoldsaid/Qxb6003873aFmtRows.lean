/-
  NARROWER THAN 'FOR EVERY INPUT', by the rows' own cells (each row's printed sentence says how): FnAppendStringOutputPassesEscapeCheck: laid.
  DERIVED. THE GIVEN ROWS OF THIS SEAT. 4 by the template 'for every input the law returns true; each argument reads behind the call as it read before'; 0 by the template 'total and deterministic' (their statements: Qxb6003873aFmtTotals.lean).
  GIVEN WITH THE SEED: the statements are not yours to turn. If you find one false, say at which input.
  Laid BY PROGRAM, IN A SANDBOX (cutbox-rows.mjs): the forced cells as the released guide's own fill.sh prints them over the translation 4198c5653136c961… (all of the seat's roots in one cut). By AI agents, Wed Nov 11 2026. No macro, syntax, notation, axiom, sorry.
-/
import Derived.Test.Qxb6003873aFmtChecked
import GoSem.PinnedTables
import GoSem.Claim
import GoSem.ClaimJoined
import GoSem.ClaimMapViews
import Derived.JoinedTies
import Derived.KernelRfl
namespace Go.Proofs.Qxb6003873aFmt
/- THE CELL 'sum', in the pinned program and in every row, IS THE sha256 OF THE DUMP (.gsa) THAT Qxb6003873aFmtProg.lean LOADS. Nothing in Lean hashes anything: it is a label: what it is worth is what the hold of that sum in a sandbox is worth. -/
noncomputable def Tryf.pinned : Pinned := { name := "qxb6003873afmt", sum := "4198c5653136c9610c47c70eaf566afbb6f51fb00f4ee4b94fc4dbff45c60a8b", checked := Tryf.checked }
namespace Rows
def none {H : Type} : Left H := { results := [], args := [] }

/- WHAT THE LISTED PACKAGE-LEVEL VARIABLES READ AS WHEN THE CALL BEGINS. Each datum BY PROGRAM (the guide's laid-datum.mjs) off the statement by which the dump's own 'gosem.cut.vars' lays the variable. In a bare row this is a premise. The card (Qxb6003873aFmtCards.lean) ties it to the program's text. -/
def laid_unicode_utf8_acceptRanges {H : Type} : DataW H := .agg [.agg [.lit (.int .u8 128), .lit (.int .u8 191)], .agg [.lit (.int .u8 160), .lit (.int .u8 191)], .agg [.lit (.int .u8 128), .lit (.int .u8 159)], .agg [.lit (.int .u8 144), .lit (.int .u8 191)], .agg [.lit (.int .u8 128), .lit (.int .u8 143)], .agg [.lit (.int .u8 0), .lit (.int .u8 0)], .agg [.lit (.int .u8 0), .lit (.int .u8 0)], .agg [.lit (.int .u8 0), .lit (.int .u8 0)], .agg [.lit (.int .u8 0), .lit (.int .u8 0)], .agg [.lit (.int .u8 0), .lit (.int .u8 0)], .agg [.lit (.int .u8 0), .lit (.int .u8 0)], .agg [.lit (.int .u8 0), .lit (.int .u8 0)], .agg [.lit (.int .u8 0), .lit (.int .u8 0)], .agg [.lit (.int .u8 0), .lit (.int .u8 0)], .agg [.lit (.int .u8 0), .lit (.int .u8 0)], .agg [.lit (.int .u8 0), .lit (.int .u8 0)]]
/-- One of Go's own tables, pinned by name: the form's constant. -/
def laid_unicode_utf8_first : DataW Unit := Go.Pinned.utf8First

/-- 'zzlaws_internal_jsonview_g1.FnCheckEscapeRefusesExactlyLoneSurrogateEscapes': WHATEVER THE INPUT: true; the input reads as it did. -/
def fnCheckEscapeRefusesExactlyLoneSurrogateEscapesSpec : ChangeSpec := { name := "fnCheckEscapeRefusesExactlyLoneSurrogateEscapes", fn := fun _ => fun
  | [d] => { results := [.lit (.bool true)], args := [d] }
  | _ => none }
def fnCheckEscapeRefusesExactlyLoneSurrogateEscapesRow : OpenClaim := { program := "qxb6003873afmt", sum := "4198c5653136c9610c47c70eaf566afbb6f51fb00f4ee4b94fc4dbff45c60a8b", func := "example.com/byteloom/byteloom/zzlaws_internal_jsonview_g1.FnCheckEscapeRefusesExactlyLoneSurrogateEscapes", spec := "fnCheckEscapeRefusesExactlyLoneSurrogateEscapes", stops := ["fmt.Sprintf, its operands' methods called", "fmt.errorf"], inPlace := ["fmt.errorf"], apart := false }
/-- NO THEOREM (fmt's text is open here; it may be false): for the released tool's asking of the row's closed facts alone. THE STATEMENT IS 'FnCheckEscapeRefusesExactlyLoneSurrogateEscapesToldSaid' (Qxb6003873aFmtCards.lean). -/
def FnCheckEscapeRefusesExactlyLoneSurrogateEscapesFormAsk : Prop := fnCheckEscapeRefusesExactlyLoneSurrogateEscapesRow.holds Tryf.pinned (OpenSpec.ofChange fnCheckEscapeRefusesExactlyLoneSurrogateEscapesSpec)

/-- ITS FALSE NEIGHBOUR: 'it returns false'. Refute it at one input. -/
def fnCheckEscapeRefusesExactlyLoneSurrogateEscapesWrong : ChangeSpec := { name := "fnCheckEscapeRefusesExactlyLoneSurrogateEscapes", fn := fun _ => fun
  | [d] => { results := [.lit (.bool false)], args := [d] }
  | _ => none }
def FnCheckEscapeRefusesExactlyLoneSurrogateEscapesWrongFormAsk : Prop := fnCheckEscapeRefusesExactlyLoneSurrogateEscapesRow.holds Tryf.pinned (OpenSpec.ofChange fnCheckEscapeRefusesExactlyLoneSurrogateEscapesWrong)

/-- 'zzlaws_internal_jsonview_g1.FnAppendStringOutputPassesEscapeCheck': WHATEVER THE INPUT: true; the input reads as it did. -/
def fnAppendStringOutputPassesEscapeCheckSpec : ChangeSpec := { name := "fnAppendStringOutputPassesEscapeCheck", fn := fun _ => fun
  | [d] => { results := [.lit (.bool true)], args := [d] }
  | _ => none }
def fnAppendStringOutputPassesEscapeCheckRow : OpenClaim := { program := "qxb6003873afmt", sum := "4198c5653136c9610c47c70eaf566afbb6f51fb00f4ee4b94fc4dbff45c60a8b", func := "example.com/byteloom/byteloom/zzlaws_internal_jsonview_g1.FnAppendStringOutputPassesEscapeCheck", spec := "fnAppendStringOutputPassesEscapeCheck", stops := ["fmt.Sprintf, its operands' methods called", "fmt.errorf"], inPlace := ["fmt.errorf"], named := ["unicode/utf8.first", "unicode/utf8.acceptRanges"], apart := false, laid := [("unicode/utf8.acceptRanges", laid_unicode_utf8_acceptRanges), ("unicode/utf8.first", laid_unicode_utf8_first)] }
/-- NO THEOREM (fmt's text is open here; it may be false): for the released tool's asking of the row's closed facts alone. THE STATEMENT IS 'FnAppendStringOutputPassesEscapeCheckToldSaid' (Qxb6003873aFmtCards.lean). -/
def FnAppendStringOutputPassesEscapeCheckFormAsk : Prop := fnAppendStringOutputPassesEscapeCheckRow.holds Tryf.pinned (OpenSpec.ofChange fnAppendStringOutputPassesEscapeCheckSpec)

/-- ITS FALSE NEIGHBOUR: 'it returns false'. Refute it at one input. -/
def fnAppendStringOutputPassesEscapeCheckWrong : ChangeSpec := { name := "fnAppendStringOutputPassesEscapeCheck", fn := fun _ => fun
  | [d] => { results := [.lit (.bool false)], args := [d] }
  | _ => none }
def FnAppendStringOutputPassesEscapeCheckWrongFormAsk : Prop := fnAppendStringOutputPassesEscapeCheckRow.holds Tryf.pinned (OpenSpec.ofChange fnAppendStringOutputPassesEscapeCheckWrong)

/-- 'zzlaws_internal_msgpack_g1.FnNumberRefusesExactlyShortAndReadsOnlyItsWindow': WHATEVER THE INPUT: true; the input reads as it did. -/
def fnNumberRefusesExactlyShortAndReadsOnlyItsWindowSpec : ChangeSpec := { name := "fnNumberRefusesExactlyShortAndReadsOnlyItsWindow", fn := fun _ => fun
  | [d1, d2, d3, d4] => { results := [.lit (.bool true)], args := [d1, d2, d3, d4] }
  | _ => none }
def fnNumberRefusesExactlyShortAndReadsOnlyItsWindowRow : OpenClaim := { program := "qxb6003873afmt", sum := "4198c5653136c9610c47c70eaf566afbb6f51fb00f4ee4b94fc4dbff45c60a8b", func := "example.com/byteloom/byteloom/zzlaws_internal_msgpack_g1.FnNumberRefusesExactlyShortAndReadsOnlyItsWindow", spec := "fnNumberRefusesExactlyShortAndReadsOnlyItsWindow", stops := ["fmt.Sprintf, its operands' methods called", "fmt.errorf"], inPlace := ["fmt.Sprintf"], unfollowed := true, recurses := true, apart := false }
/-- NO THEOREM (fmt's text is open here; it may be false): for the released tool's asking of the row's closed facts alone. THE STATEMENT IS 'FnNumberRefusesExactlyShortAndReadsOnlyItsWindowToldSaid' (Qxb6003873aFmtCards.lean). -/
def FnNumberRefusesExactlyShortAndReadsOnlyItsWindowFormAsk : Prop := fnNumberRefusesExactlyShortAndReadsOnlyItsWindowRow.holds Tryf.pinned (OpenSpec.ofChange fnNumberRefusesExactlyShortAndReadsOnlyItsWindowSpec)

/-- ITS FALSE NEIGHBOUR: 'it returns false'. Refute it at one input. -/
def fnNumberRefusesExactlyShortAndReadsOnlyItsWindowWrong : ChangeSpec := { name := "fnNumberRefusesExactlyShortAndReadsOnlyItsWindow", fn := fun _ => fun
  | [d1, d2, d3, d4] => { results := [.lit (.bool false)], args := [d1, d2, d3, d4] }
  | _ => none }
def FnNumberRefusesExactlyShortAndReadsOnlyItsWindowWrongFormAsk : Prop := fnNumberRefusesExactlyShortAndReadsOnlyItsWindowRow.holds Tryf.pinned (OpenSpec.ofChange fnNumberRefusesExactlyShortAndReadsOnlyItsWindowWrong)

/-- 'zzlaws_internal_msgpack_g1.FnNumberInvertsAppendBigEndian': WHATEVER THE INPUT: true; the input reads as it did. -/
def fnNumberInvertsAppendBigEndianSpec : ChangeSpec := { name := "fnNumberInvertsAppendBigEndian", fn := fun _ => fun
  | [d1, d2, d3] => { results := [.lit (.bool true)], args := [d1, d2, d3] }
  | _ => none }
def fnNumberInvertsAppendBigEndianRow : OpenClaim := { program := "qxb6003873afmt", sum := "4198c5653136c9610c47c70eaf566afbb6f51fb00f4ee4b94fc4dbff45c60a8b", func := "example.com/byteloom/byteloom/zzlaws_internal_msgpack_g1.FnNumberInvertsAppendBigEndian", spec := "fnNumberInvertsAppendBigEndian", stops := ["fmt.Sprintf, its operands' methods called", "fmt.errorf"], inPlace := ["fmt.Sprintf"], unfollowed := true, recurses := true, apart := false }
/-- NO THEOREM (fmt's text is open here; it may be false): for the released tool's asking of the row's closed facts alone. THE STATEMENT IS 'FnNumberInvertsAppendBigEndianToldSaid' (Qxb6003873aFmtCards.lean). -/
def FnNumberInvertsAppendBigEndianFormAsk : Prop := fnNumberInvertsAppendBigEndianRow.holds Tryf.pinned (OpenSpec.ofChange fnNumberInvertsAppendBigEndianSpec)

/-- ITS FALSE NEIGHBOUR: 'it returns false'. Refute it at one input. -/
def fnNumberInvertsAppendBigEndianWrong : ChangeSpec := { name := "fnNumberInvertsAppendBigEndian", fn := fun _ => fun
  | [d1, d2, d3] => { results := [.lit (.bool false)], args := [d1, d2, d3] }
  | _ => none }
def FnNumberInvertsAppendBigEndianWrongFormAsk : Prop := fnNumberInvertsAppendBigEndianRow.holds Tryf.pinned (OpenSpec.ofChange fnNumberInvertsAppendBigEndianWrong)

end Rows
end Go.Proofs.Qxb6003873aFmt
