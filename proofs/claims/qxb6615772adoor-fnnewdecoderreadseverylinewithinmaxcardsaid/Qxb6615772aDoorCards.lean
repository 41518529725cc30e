/-
  DERIVED. GIVEN WITH THE SEED: THE CARDS: each row of Qxb6615772aDoorRows.lean that lists a variable, with what it lists TIED to the program's text (the seventh form; the later family's looks); each row that meets fmt, with fmt's text TOLD by the authors' own Lean function (tested against real Go, not proved from fmt's source: count such statements apart). THE CARD IS WHAT COUNTS. Prove the row's statement (the work); the ties are given (Qxb6615772aDoorTie.lean); close each card by the builder's one call (the guide's Derived/Test/ToyasCard.lean, 'card_holds'). Laid BY PROGRAM, IN A SANDBOX (cutbox-door.mjs). By AI agents, Wed Nov 11 2026. No macro, syntax, notation, axiom, sorry.
-/
import Derived.Test.Qxb6615772aDoorRows
import GoSem.ClaimSeven
namespace Go.Proofs.Qxb6615772aDoor
namespace Rows

/-- THE TIED CARD OF 'zzlaws_internal_ledger_b1.FnNewDecoderReadsEveryLineWithinMax'. -/
def fnNewDecoderReadsEveryLineWithinMaxCard : Claim7 := { stood := { row := fnNewDecoderReadsEveryLineWithinMaxRow, standIns := [], harness := (true, "70c9e6a055d37df8841b24356c8cd5fe89086da8149e9007734c8fc367755c53"), looks := true }, kinds := [], alts := [], laidByText := true, laidKinds := [.sentinel, .sentinel, .sentinel, .sentinel, .sentinel, .sentinel, .sentinel], laidTests := true, laidLooks := .later }
def FnNewDecoderReadsEveryLineWithinMaxCardSaid : Prop := Claim7.holds Tryd.pinned (.plain (OpenSpec.ofChange fnNewDecoderReadsEveryLineWithinMaxSpec)) fnNewDecoderReadsEveryLineWithinMaxCard
end Rows
end Go.Proofs.Qxb6615772aDoor
