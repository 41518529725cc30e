/-
  DERIVED. GIVEN WITH THE SEED: THE CARDS: each row of Qxb6609261aFmtRows.lean that lists a variable, with what it lists TIED to the program's text (the seventh form; the later family's looks); each row that meets fmt, with fmt's text TOLD by the authors' own Lean function (tested against real Go, not proved from fmt's source: count such statements apart). THE CARD IS WHAT COUNTS. Prove the row's statement (the work); the ties are given (Qxb6609261aFmtTie.lean); close each card by the builder's one call (the guide's Derived/Test/ToyasCard.lean, 'card_holds'). Laid BY PROGRAM, IN A SANDBOX (cutbox-door.mjs). By AI agents, Wed Nov 11 2026. No macro, syntax, notation, axiom, sorry.
-/
import Derived.Test.Qxb6609261aFmtRows
import GoSem.ClaimSeven
namespace Go.Proofs.Qxb6609261aFmt
namespace Rows

/-- THE TOLD CARD OF 'zzlaws_root_b1.FnMetresReadsBackWhatIsWritten'. -/
def fnMetresReadsBackWhatIsWrittenCard : Claim7 := { stood := { row := fnMetresReadsBackWhatIsWrittenRow, standIns := [], harness := (true, "d969abf68eade07eb279a0acf3e6a38a18fc69351f18cad1d9f3bd6a3ac710a4"), looks := true }, told := true, goes := false }
def FnMetresReadsBackWhatIsWrittenToldSaid : Prop := Claim7.holds Tryf.pinned (.plain (OpenSpec.ofChange fnMetresReadsBackWhatIsWrittenSpec)) fnMetresReadsBackWhatIsWrittenCard
/-- ITS FALSE NEIGHBOUR. Refute it at one input. -/
def FnMetresReadsBackWhatIsWrittenToldWrongFalsely : Prop := Claim7.holds Tryf.pinned (.plain (OpenSpec.ofChange fnMetresReadsBackWhatIsWrittenWrong)) fnMetresReadsBackWhatIsWrittenCard

/-- THE TOLD AND TIED CARD OF 'zzlaws_root_b1.FnAngleReadsBackWhatIsWritten'. -/
def fnAngleReadsBackWhatIsWrittenCard : Claim7 := { stood := { row := fnAngleReadsBackWhatIsWrittenRow, standIns := [], harness := (true, "d969abf68eade07eb279a0acf3e6a38a18fc69351f18cad1d9f3bd6a3ac710a4"), looks := true }, told := true, laidByText := true, laidKinds := [.data, .pinned, .pinned, .pinned, .pinned, .pinned, .pinned], laidTests := true, laidLooks := .later, goes := false }
def FnAngleReadsBackWhatIsWrittenToldSaid : Prop := Claim7.holds Tryf.pinned (.plain (OpenSpec.ofChange fnAngleReadsBackWhatIsWrittenSpec)) fnAngleReadsBackWhatIsWrittenCard
/-- ITS FALSE NEIGHBOUR. Refute it at one input. -/
def FnAngleReadsBackWhatIsWrittenToldWrongFalsely : Prop := Claim7.holds Tryf.pinned (.plain (OpenSpec.ofChange fnAngleReadsBackWhatIsWrittenWrong)) fnAngleReadsBackWhatIsWrittenCard
end Rows
end Go.Proofs.Qxb6609261aFmt
