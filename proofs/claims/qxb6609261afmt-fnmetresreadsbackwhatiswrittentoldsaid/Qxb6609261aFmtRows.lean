/-
  NARROWER THAN 'FOR EVERY INPUT', by the rows' own cells (each row's printed sentence says how): FnAngleReadsBackWhatIsWritten: laid.
  DERIVED. THE GIVEN ROWS OF THIS SEAT. 2 by the template 'for every input the law returns true; each argument reads behind the call as it read before'; 0 by the template 'total and deterministic' (their statements: Qxb6609261aFmtTotals.lean).
  GIVEN WITH THE SEED: the statements are not yours to turn. If you find one false, say at which input.
  Laid BY PROGRAM, IN A SANDBOX (cutbox-rows.mjs): the forced cells as the released guide's own fill.sh prints them over the translation 8df5f69c6ed35a65… (all of the seat's roots in one cut). By AI agents, Wed Nov 11 2026. No macro, syntax, notation, axiom, sorry.
-/
import Derived.Test.Qxb6609261aFmtChecked
import GoSem.PinnedTables
import GoSem.Claim
import GoSem.ClaimJoined
import GoSem.ClaimMapViews
import Derived.JoinedTies
import Derived.KernelRfl
namespace Go.Proofs.Qxb6609261aFmt
/- THE CELL 'sum', in the pinned program and in every row, IS THE sha256 OF THE DUMP (.gsa) THAT Qxb6609261aFmtProg.lean LOADS. Nothing in Lean hashes anything: it is a label: what it is worth is what the hold of that sum in a sandbox is worth. -/
noncomputable def Tryf.pinned : Pinned := { name := "qxb6609261afmt", sum := "8df5f69c6ed35a65579cc6630d867e5e53cd8b6af83c0bf1b8292321445a5b96", checked := Tryf.checked }
namespace Rows
def none {H : Type} : Left H := { results := [], args := [] }

/- WHAT THE LISTED PACKAGE-LEVEL VARIABLES READ AS WHEN THE CALL BEGINS. Each datum BY PROGRAM (the guide's laid-datum.mjs) off the statement by which the dump's own 'gosem.cut.vars' lays the variable. In a bare row this is a premise. The card (Qxb6609261aFmtCards.lean) ties it to the program's text. -/
def laid_unicode_utf8_acceptRanges {H : Type} : DataW H := .agg [.agg [.lit (.int .u8 128), .lit (.int .u8 191)], .agg [.lit (.int .u8 160), .lit (.int .u8 191)], .agg [.lit (.int .u8 128), .lit (.int .u8 159)], .agg [.lit (.int .u8 144), .lit (.int .u8 191)], .agg [.lit (.int .u8 128), .lit (.int .u8 143)], .agg [.lit (.int .u8 0), .lit (.int .u8 0)], .agg [.lit (.int .u8 0), .lit (.int .u8 0)], .agg [.lit (.int .u8 0), .lit (.int .u8 0)], .agg [.lit (.int .u8 0), .lit (.int .u8 0)], .agg [.lit (.int .u8 0), .lit (.int .u8 0)], .agg [.lit (.int .u8 0), .lit (.int .u8 0)], .agg [.lit (.int .u8 0), .lit (.int .u8 0)], .agg [.lit (.int .u8 0), .lit (.int .u8 0)], .agg [.lit (.int .u8 0), .lit (.int .u8 0)], .agg [.lit (.int .u8 0), .lit (.int .u8 0)], .agg [.lit (.int .u8 0), .lit (.int .u8 0)]]
/-- One of Go's own tables, pinned by name: the form's constant. -/
def laid_strconv_isGraphic : DataW Unit := Go.Pinned.isGraphic
/-- One of Go's own tables, pinned by name: the form's constant. -/
def laid_strconv_isNotPrint16 : DataW Unit := Go.Pinned.isNotPrint16
/-- One of Go's own tables, pinned by name: the form's constant. -/
def laid_strconv_isNotPrint32 : DataW Unit := Go.Pinned.isNotPrint32
/-- One of Go's own tables, pinned by name: the form's constant. -/
def laid_strconv_isPrint16 : DataW Unit := Go.Pinned.isPrint16
/-- One of Go's own tables, pinned by name: the form's constant. -/
def laid_strconv_isPrint32 : DataW Unit := Go.Pinned.isPrint32
/-- One of Go's own tables, pinned by name: the form's constant. -/
def laid_unicode_utf8_first : DataW Unit := Go.Pinned.utf8First

/-- 'zzlaws_root_b1.FnMetresReadsBackWhatIsWritten': WHATEVER THE INPUT: true; the input reads as it did. -/
def fnMetresReadsBackWhatIsWrittenSpec : ChangeSpec := { name := "fnMetresReadsBackWhatIsWritten", fn := fun _ => fun
  | [d1, d2, d3, d4, d5] => { results := [.lit (.bool true)], args := [d1, d2, d3, d4, d5] }
  | _ => none }
def fnMetresReadsBackWhatIsWrittenRow : OpenClaim := { program := "qxb6609261afmt", sum := "8df5f69c6ed35a65579cc6630d867e5e53cd8b6af83c0bf1b8292321445a5b96", func := "example.com/whereabouts/whereabouts/zzlaws_root_b1.FnMetresReadsBackWhatIsWritten", spec := "fnMetresReadsBackWhatIsWritten", stops := ["fmt.Sprintf, its operands' methods called", "fmt.errorf"], inPlace := ["internal/bytealg.IndexByteString", "internal/bytealg.IndexString", "fmt.errorf", "fmt.Sprintf"], unfollowed := true, recurses := true, named := ["internal/bytealg.MaxLen"], apart := false }
/-- NO THEOREM (fmt's text is open here; it may be false): for the released tool's asking of the row's closed facts alone. THE STATEMENT IS 'FnMetresReadsBackWhatIsWrittenToldSaid' (Qxb6609261aFmtCards.lean). -/
def FnMetresReadsBackWhatIsWrittenFormAsk : Prop := fnMetresReadsBackWhatIsWrittenRow.holds Tryf.pinned (OpenSpec.ofChange fnMetresReadsBackWhatIsWrittenSpec)

/-- ITS FALSE NEIGHBOUR: 'it returns false'. Refute it at one input. -/
def fnMetresReadsBackWhatIsWrittenWrong : ChangeSpec := { name := "fnMetresReadsBackWhatIsWritten", fn := fun _ => fun
  | [d1, d2, d3, d4, d5] => { results := [.lit (.bool false)], args := [d1, d2, d3, d4, d5] }
  | _ => none }
def FnMetresReadsBackWhatIsWrittenWrongFormAsk : Prop := fnMetresReadsBackWhatIsWrittenRow.holds Tryf.pinned (OpenSpec.ofChange fnMetresReadsBackWhatIsWrittenWrong)

/-- 'zzlaws_root_b1.FnAngleReadsBackWhatIsWritten': WHATEVER THE INPUT: true; the input reads as it did. -/
def fnAngleReadsBackWhatIsWrittenSpec : ChangeSpec := { name := "fnAngleReadsBackWhatIsWritten", fn := fun _ => fun
  | [d1, d2, d3, d4] => { results := [.lit (.bool true)], args := [d1, d2, d3, d4] }
  | _ => none }
def fnAngleReadsBackWhatIsWrittenRow : OpenClaim := { program := "qxb6609261afmt", sum := "8df5f69c6ed35a65579cc6630d867e5e53cd8b6af83c0bf1b8292321445a5b96", func := "example.com/whereabouts/whereabouts/zzlaws_root_b1.FnAngleReadsBackWhatIsWritten", spec := "fnAngleReadsBackWhatIsWritten", stops := ["fmt.Sprintf, its operands' methods called", "fmt.errorf"], inPlace := ["internal/bytealg.IndexByteString", "internal/bytealg.IndexString", "fmt.errorf", "fmt.Sprintf"], unfollowed := true, recurses := true, named := ["internal/bytealg.MaxLen", "unicode/utf8.first", "unicode/utf8.acceptRanges", "strconv.isPrint16", "strconv.isNotPrint16", "strconv.isPrint32", "strconv.isNotPrint32", "strconv.isGraphic"], apart := false, laid := [("unicode/utf8.acceptRanges", laid_unicode_utf8_acceptRanges), ("strconv.isGraphic", laid_strconv_isGraphic), ("strconv.isNotPrint16", laid_strconv_isNotPrint16), ("strconv.isNotPrint32", laid_strconv_isNotPrint32), ("strconv.isPrint16", laid_strconv_isPrint16), ("strconv.isPrint32", laid_strconv_isPrint32), ("unicode/utf8.first", laid_unicode_utf8_first)] }
/-- NO THEOREM (fmt's text is open here; it may be false): for the released tool's asking of the row's closed facts alone. THE STATEMENT IS 'FnAngleReadsBackWhatIsWrittenToldSaid' (Qxb6609261aFmtCards.lean). -/
def FnAngleReadsBackWhatIsWrittenFormAsk : Prop := fnAngleReadsBackWhatIsWrittenRow.holds Tryf.pinned (OpenSpec.ofChange fnAngleReadsBackWhatIsWrittenSpec)

/-- ITS FALSE NEIGHBOUR: 'it returns false'. Refute it at one input. -/
def fnAngleReadsBackWhatIsWrittenWrong : ChangeSpec := { name := "fnAngleReadsBackWhatIsWritten", fn := fun _ => fun
  | [d1, d2, d3, d4] => { results := [.lit (.bool false)], args := [d1, d2, d3, d4] }
  | _ => none }
def FnAngleReadsBackWhatIsWrittenWrongFormAsk : Prop := fnAngleReadsBackWhatIsWrittenRow.holds Tryf.pinned (OpenSpec.ofChange fnAngleReadsBackWhatIsWrittenWrong)

end Rows
end Go.Proofs.Qxb6609261aFmt
