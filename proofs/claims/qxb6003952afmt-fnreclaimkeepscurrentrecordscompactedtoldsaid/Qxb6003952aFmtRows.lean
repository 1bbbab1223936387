/-
  NARROWER THAN 'FOR EVERY INPUT', by the rows' own cells (each row's printed sentence says how): FnCommentStopsAtLineEnd: laid · FnEndOfLineAcceptsBlanksAndComment: laid · FnTextArgsSplitsExactly: laid.
  DERIVED. THE GIVEN ROWS OF THIS SEAT. 4 by the template 'for every input the law returns true; each argument reads behind the call as it read before'; 0 by the template 'total and deterministic' (their statements: Qxb6003952aFmtTotals.lean).
  GIVEN WITH THE SEED: the statements are not yours to turn. If you find one false, say at which input.
  Laid BY PROGRAM, IN A SANDBOX (cutbox-rows.mjs): the forced cells as the released guide's own fill.sh prints them over the translation 9dd5aae6323ec196… (all of the seat's roots in one cut). By AI agents, Wed Nov 11 2026. No macro, syntax, notation, axiom, sorry.
-/
import Derived.Test.Qxb6003952aFmtChecked
import GoSem.PinnedTables
import GoSem.Claim
import GoSem.ClaimJoined
import GoSem.ClaimMapViews
import Derived.JoinedTies
import Derived.KernelRfl
namespace Go.Proofs.Qxb6003952aFmt
/- THE CELL 'sum', in the pinned program and in every row, IS THE sha256 OF THE DUMP (.gsa) THAT Qxb6003952aFmtProg.lean LOADS. Nothing in Lean hashes anything: it is a label: what it is worth is what the hold of that sum in a sandbox is worth. -/
noncomputable def Tryf.pinned : Pinned := { name := "qxb6003952afmt", sum := "9dd5aae6323ec19631b2a5aa2173e94f418a6f139676ff1a2b8cc1cde34bc864", checked := Tryf.checked }
namespace Rows
def none {H : Type} : Left H := { results := [], args := [] }

/- WHAT THE LISTED PACKAGE-LEVEL VARIABLES READ AS WHEN THE CALL BEGINS. Each datum BY PROGRAM (the guide's laid-datum.mjs) off the statement by which the dump's own 'gosem.cut.vars' lays the variable. In a bare row this is a premise. The card (Qxb6003952aFmtCards.lean) ties it to the program's text. -/
def laid_unicode_utf8_acceptRanges {H : Type} : DataW H := .agg [.agg [.lit (.int .u8 128), .lit (.int .u8 191)], .agg [.lit (.int .u8 160), .lit (.int .u8 191)], .agg [.lit (.int .u8 128), .lit (.int .u8 159)], .agg [.lit (.int .u8 144), .lit (.int .u8 191)], .agg [.lit (.int .u8 128), .lit (.int .u8 143)], .agg [.lit (.int .u8 0), .lit (.int .u8 0)], .agg [.lit (.int .u8 0), .lit (.int .u8 0)], .agg [.lit (.int .u8 0), .lit (.int .u8 0)], .agg [.lit (.int .u8 0), .lit (.int .u8 0)], .agg [.lit (.int .u8 0), .lit (.int .u8 0)], .agg [.lit (.int .u8 0), .lit (.int .u8 0)], .agg [.lit (.int .u8 0), .lit (.int .u8 0)], .agg [.lit (.int .u8 0), .lit (.int .u8 0)], .agg [.lit (.int .u8 0), .lit (.int .u8 0)], .agg [.lit (.int .u8 0), .lit (.int .u8 0)], .agg [.lit (.int .u8 0), .lit (.int .u8 0)]]
/-- One of Go's own tables, pinned by name: the form's constant. -/
def laid_unicode_utf8_first : DataW Unit := Go.Pinned.utf8First

/-- 'zzlaws_bootfile_g1.FnCommentStopsAtLineEnd': WHATEVER THE INPUT: true; the input reads as it did. -/
def fnCommentStopsAtLineEndSpec : ChangeSpec := { name := "fnCommentStopsAtLineEnd", fn := fun _ => fun
  | [d1, d2, d3] => { results := [.lit (.bool true)], args := [d1, d2, d3] }
  | _ => none }
def fnCommentStopsAtLineEndRow : OpenClaim := { program := "qxb6003952afmt", sum := "9dd5aae6323ec19631b2a5aa2173e94f418a6f139676ff1a2b8cc1cde34bc864", func := "example.com/firmrudder/firmrudder/zzlaws_bootfile_g1.FnCommentStopsAtLineEnd", spec := "fnCommentStopsAtLineEnd", stops := ["fmt.Sprintf, its operands' methods called", "fmt.errorf"], inPlace := ["fmt.Sprintf"], unfollowed := true, recurses := true, named := ["unicode/utf8.first", "unicode/utf8.acceptRanges"], plainKeys := false, apart := false, laid := [("unicode/utf8.acceptRanges", laid_unicode_utf8_acceptRanges), ("unicode/utf8.first", laid_unicode_utf8_first)] }
/-- NO THEOREM (fmt's text is open here; it may be false): for the released tool's asking of the row's closed facts alone. THE STATEMENT IS 'FnCommentStopsAtLineEndToldSaid' (Qxb6003952aFmtCards.lean). -/
def FnCommentStopsAtLineEndFormAsk : Prop := fnCommentStopsAtLineEndRow.holds Tryf.pinned (OpenSpec.ofChange fnCommentStopsAtLineEndSpec)

/-- ITS FALSE NEIGHBOUR: 'it returns false'. Refute it at one input. -/
def fnCommentStopsAtLineEndWrong : ChangeSpec := { name := "fnCommentStopsAtLineEnd", fn := fun _ => fun
  | [d1, d2, d3] => { results := [.lit (.bool false)], args := [d1, d2, d3] }
  | _ => none }
def FnCommentStopsAtLineEndWrongFormAsk : Prop := fnCommentStopsAtLineEndRow.holds Tryf.pinned (OpenSpec.ofChange fnCommentStopsAtLineEndWrong)

/-- 'zzlaws_bootfile_g1.FnEndOfLineAcceptsBlanksAndComment': WHATEVER THE INPUT: true; the input reads as it did. -/
def fnEndOfLineAcceptsBlanksAndCommentSpec : ChangeSpec := { name := "fnEndOfLineAcceptsBlanksAndComment", fn := fun _ => fun
  | [d1, d2, d3] => { results := [.lit (.bool true)], args := [d1, d2, d3] }
  | _ => none }
def fnEndOfLineAcceptsBlanksAndCommentRow : OpenClaim := { program := "qxb6003952afmt", sum := "9dd5aae6323ec19631b2a5aa2173e94f418a6f139676ff1a2b8cc1cde34bc864", func := "example.com/firmrudder/firmrudder/zzlaws_bootfile_g1.FnEndOfLineAcceptsBlanksAndComment", spec := "fnEndOfLineAcceptsBlanksAndComment", stops := ["fmt.Sprintf, its operands' methods called", "fmt.errorf"], inPlace := ["fmt.Sprintf"], unfollowed := true, recurses := true, named := ["unicode/utf8.first", "unicode/utf8.acceptRanges"], plainKeys := false, apart := false, laid := [("unicode/utf8.acceptRanges", laid_unicode_utf8_acceptRanges), ("unicode/utf8.first", laid_unicode_utf8_first)] }
/-- NO THEOREM (fmt's text is open here; it may be false): for the released tool's asking of the row's closed facts alone. THE STATEMENT IS 'FnEndOfLineAcceptsBlanksAndCommentToldSaid' (Qxb6003952aFmtCards.lean). -/
def FnEndOfLineAcceptsBlanksAndCommentFormAsk : Prop := fnEndOfLineAcceptsBlanksAndCommentRow.holds Tryf.pinned (OpenSpec.ofChange fnEndOfLineAcceptsBlanksAndCommentSpec)

/-- ITS FALSE NEIGHBOUR: 'it returns false'. Refute it at one input. -/
def fnEndOfLineAcceptsBlanksAndCommentWrong : ChangeSpec := { name := "fnEndOfLineAcceptsBlanksAndComment", fn := fun _ => fun
  | [d1, d2, d3] => { results := [.lit (.bool false)], args := [d1, d2, d3] }
  | _ => none }
def FnEndOfLineAcceptsBlanksAndCommentWrongFormAsk : Prop := fnEndOfLineAcceptsBlanksAndCommentRow.holds Tryf.pinned (OpenSpec.ofChange fnEndOfLineAcceptsBlanksAndCommentWrong)

/-- 'zzlaws_efi_g1.FnTextArgsSplitsExactly': WHATEVER THE INPUT: true; the input reads as it did. -/
def fnTextArgsSplitsExactlySpec : ChangeSpec := { name := "fnTextArgsSplitsExactly", fn := fun _ => fun
  | [d1, d2] => { results := [.lit (.bool true)], args := [d1, d2] }
  | _ => none }
def fnTextArgsSplitsExactlyRow : OpenClaim := { program := "qxb6003952afmt", sum := "9dd5aae6323ec19631b2a5aa2173e94f418a6f139676ff1a2b8cc1cde34bc864", func := "example.com/firmrudder/firmrudder/zzlaws_efi_g1.FnTextArgsSplitsExactly", spec := "fnTextArgsSplitsExactly", stops := ["fmt.Sprintf, its operands' methods called", "fmt.errorf"], inPlace := ["internal/bytealg.CountString", "internal/bytealg.IndexByteString", "internal/bytealg.IndexString", "fmt.errorf"], named := ["unicode/utf8.first", "unicode/utf8.acceptRanges", "internal/bytealg.MaxLen"], plainKeys := false, apart := false, laid := [("unicode/utf8.acceptRanges", laid_unicode_utf8_acceptRanges), ("unicode/utf8.first", laid_unicode_utf8_first)] }
/-- NO THEOREM (fmt's text is open here; it may be false): for the released tool's asking of the row's closed facts alone. THE STATEMENT IS 'FnTextArgsSplitsExactlyToldSaid' (Qxb6003952aFmtCards.lean). -/
def FnTextArgsSplitsExactlyFormAsk : Prop := fnTextArgsSplitsExactlyRow.holds Tryf.pinned (OpenSpec.ofChange fnTextArgsSplitsExactlySpec)

/-- ITS FALSE NEIGHBOUR: 'it returns false'. Refute it at one input. -/
def fnTextArgsSplitsExactlyWrong : ChangeSpec := { name := "fnTextArgsSplitsExactly", fn := fun _ => fun
  | [d1, d2] => { results := [.lit (.bool false)], args := [d1, d2] }
  | _ => none }
def FnTextArgsSplitsExactlyWrongFormAsk : Prop := fnTextArgsSplitsExactlyRow.holds Tryf.pinned (OpenSpec.ofChange fnTextArgsSplitsExactlyWrong)

/-- 'zzlaws_varstore_g1.FnReclaimKeepsCurrentRecordsCompacted': WHATEVER THE INPUT: true; the input reads as it did. -/
def fnReclaimKeepsCurrentRecordsCompactedSpec : ChangeSpec := { name := "fnReclaimKeepsCurrentRecordsCompacted", fn := fun _ => fun
  | [d1, d2, d3, d4, d5, d6, d7, d8, d9] => { results := [.lit (.bool true)], args := [d1, d2, d3, d4, d5, d6, d7, d8, d9] }
  | _ => none }
def fnReclaimKeepsCurrentRecordsCompactedRow : OpenClaim := { program := "qxb6003952afmt", sum := "9dd5aae6323ec19631b2a5aa2173e94f418a6f139676ff1a2b8cc1cde34bc864", func := "example.com/firmrudder/firmrudder/zzlaws_varstore_g1.FnReclaimKeepsCurrentRecordsCompacted", spec := "fnReclaimKeepsCurrentRecordsCompacted", stops := ["fmt.Sprintf, its operands' methods called", "fmt.errorf"], inPlace := ["fmt.errorf"], recurses := true, plainKeys := false, apart := false }
/-- NO THEOREM (fmt's text is open here; it may be false): for the released tool's asking of the row's closed facts alone. THE STATEMENT IS 'FnReclaimKeepsCurrentRecordsCompactedToldSaid' (Qxb6003952aFmtCards.lean). -/
def FnReclaimKeepsCurrentRecordsCompactedFormAsk : Prop := fnReclaimKeepsCurrentRecordsCompactedRow.holds Tryf.pinned (OpenSpec.ofChange fnReclaimKeepsCurrentRecordsCompactedSpec)

/-- ITS FALSE NEIGHBOUR: 'it returns false'. Refute it at one input. -/
def fnReclaimKeepsCurrentRecordsCompactedWrong : ChangeSpec := { name := "fnReclaimKeepsCurrentRecordsCompacted", fn := fun _ => fun
  | [d1, d2, d3, d4, d5, d6, d7, d8, d9] => { results := [.lit (.bool false)], args := [d1, d2, d3, d4, d5, d6, d7, d8, d9] }
  | _ => none }
def FnReclaimKeepsCurrentRecordsCompactedWrongFormAsk : Prop := fnReclaimKeepsCurrentRecordsCompactedRow.holds Tryf.pinned (OpenSpec.ofChange fnReclaimKeepsCurrentRecordsCompactedWrong)

end Rows
end Go.Proofs.Qxb6003952aFmt
