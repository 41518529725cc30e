/-
  No cell of these rows narrows 'for every input' (looked for: loops, veiled, ifaces, maps, wideKeys, modest, calm, conditions, laid).
  DERIVED. THE GIVEN ROWS OF THIS SEAT. 8 by the template 'for every input the law returns true; each argument reads behind the call as it read before'; 0 by the template 'total and deterministic' (their statements: Qxb6000755aTotals.lean).
  GIVEN WITH THE SEED: the statements are not yours to turn. If you find one false, say at which input.
  Laid BY PROGRAM, IN A SANDBOX (cutbox-rows.mjs): the forced cells as the released guide's own fill.sh prints them over the translation 9ea7316e7b607387… (all of the seat's roots in one cut). By AI agents, Wed Nov 11 2026. No macro, syntax, notation, axiom, sorry.
-/
import Derived.Test.Qxb6000755aChecked
import GoSem.Claim
import GoSem.ClaimJoined
import GoSem.ClaimMapViews
import Derived.JoinedTies
import Derived.KernelRfl
namespace Go.Proofs.Qxb6000755a
/- THE CELL 'sum', in the pinned program and in every row, IS THE sha256 OF THE DUMP (.gsa) THAT Qxb6000755aProg.lean LOADS. Nothing in Lean hashes anything: it is a label: what it is worth is what the hold of that sum in a sandbox is worth. -/
noncomputable def Try.pinned : Pinned := { name := "qxb6000755a", sum := "9ea7316e7b607387686bf35b7435c6b0d23fde0f120db641fa0cea4897262049", checked := Try.checked }
namespace Rows
def none {H : Type} : Left H := { results := [], args := [] }

/-- 'zzlaws_internal_gomod_b1.FnPathRuneMatchesTable': WHATEVER THE INPUT: true; the input reads as it did. -/
def fnPathRuneMatchesTableSpec : ChangeSpec := { name := "fnPathRuneMatchesTable", fn := fun _ => fun
  | [d] => { results := [.lit (.bool true)], args := [d] }
  | _ => none }
def fnPathRuneMatchesTableRow : OpenClaim := { program := "qxb6000755a", sum := "9ea7316e7b607387686bf35b7435c6b0d23fde0f120db641fa0cea4897262049", func := "example.com/low-fences/low-fences/zzlaws_internal_gomod_b1.FnPathRuneMatchesTable", spec := "fnPathRuneMatchesTable", inPlace := ["internal/bytealg.IndexByteString", "internal/bytealg.IndexString"], named := ["internal/bytealg.MaxLen"], apart := false }
def FnPathRuneMatchesTableSaid : Prop := fnPathRuneMatchesTableRow.holds Try.pinned (OpenSpec.ofChange fnPathRuneMatchesTableSpec)

/-- ITS FALSE NEIGHBOUR: 'it returns false'. Refute it at one input. -/
def fnPathRuneMatchesTableWrong : ChangeSpec := { name := "fnPathRuneMatchesTable", fn := fun _ => fun
  | [d] => { results := [.lit (.bool false)], args := [d] }
  | _ => none }
def FnPathRuneMatchesTableWrongFalsely : Prop := fnPathRuneMatchesTableRow.holds Try.pinned (OpenSpec.ofChange fnPathRuneMatchesTableWrong)

/-- 'zzlaws_internal_gomod_b1.FnPathElementsReadWholeByIdentLen': WHATEVER THE INPUT: true; the input reads as it did. -/
def fnPathElementsReadWholeByIdentLenSpec : ChangeSpec := { name := "fnPathElementsReadWholeByIdentLen", fn := fun _ => fun
  | [d] => { results := [.lit (.bool true)], args := [d] }
  | _ => none }
def fnPathElementsReadWholeByIdentLenRow : OpenClaim := { program := "qxb6000755a", sum := "9ea7316e7b607387686bf35b7435c6b0d23fde0f120db641fa0cea4897262049", func := "example.com/low-fences/low-fences/zzlaws_internal_gomod_b1.FnPathElementsReadWholeByIdentLen", spec := "fnPathElementsReadWholeByIdentLen", inPlace := ["internal/bytealg.IndexByteString", "internal/bytealg.IndexString"], named := ["internal/bytealg.MaxLen"], apart := false }
def FnPathElementsReadWholeByIdentLenSaid : Prop := fnPathElementsReadWholeByIdentLenRow.holds Try.pinned (OpenSpec.ofChange fnPathElementsReadWholeByIdentLenSpec)

/-- ITS FALSE NEIGHBOUR: 'it returns false'. Refute it at one input. -/
def fnPathElementsReadWholeByIdentLenWrong : ChangeSpec := { name := "fnPathElementsReadWholeByIdentLen", fn := fun _ => fun
  | [d] => { results := [.lit (.bool false)], args := [d] }
  | _ => none }
def FnPathElementsReadWholeByIdentLenWrongFalsely : Prop := fnPathElementsReadWholeByIdentLenRow.holds Try.pinned (OpenSpec.ofChange fnPathElementsReadWholeByIdentLenWrong)

/-- 'zzlaws_internal_gomod_b1.FnStringLenFindsEndOfQuoted': WHATEVER THE INPUT: true; the input reads as it did. -/
def fnStringLenFindsEndOfQuotedSpec : ChangeSpec := { name := "fnStringLenFindsEndOfQuoted", fn := fun _ => fun
  | [d1, d2, d3] => { results := [.lit (.bool true)], args := [d1, d2, d3] }
  | _ => none }
def fnStringLenFindsEndOfQuotedRow : OpenClaim := { program := "qxb6000755a", sum := "9ea7316e7b607387686bf35b7435c6b0d23fde0f120db641fa0cea4897262049", func := "example.com/low-fences/low-fences/zzlaws_internal_gomod_b1.FnStringLenFindsEndOfQuoted", spec := "fnStringLenFindsEndOfQuoted", inPlace := ["internal/bytealg.IndexByteString"], apart := false }
def FnStringLenFindsEndOfQuotedSaid : Prop := fnStringLenFindsEndOfQuotedRow.holds Try.pinned (OpenSpec.ofChange fnStringLenFindsEndOfQuotedSpec)

/-- ITS FALSE NEIGHBOUR: 'it returns false'. Refute it at one input. -/
def fnStringLenFindsEndOfQuotedWrong : ChangeSpec := { name := "fnStringLenFindsEndOfQuoted", fn := fun _ => fun
  | [d1, d2, d3] => { results := [.lit (.bool false)], args := [d1, d2, d3] }
  | _ => none }
def FnStringLenFindsEndOfQuotedWrongFalsely : Prop := fnStringLenFindsEndOfQuotedRow.holds Try.pinned (OpenSpec.ofChange fnStringLenFindsEndOfQuotedWrong)

/-- 'zzlaws_internal_gomod_b1.FnStringLenEndIsUnescapedCloser': WHATEVER THE INPUT: true; the input reads as it did. -/
def fnStringLenEndIsUnescapedCloserSpec : ChangeSpec := { name := "fnStringLenEndIsUnescapedCloser", fn := fun _ => fun
  | [d] => { results := [.lit (.bool true)], args := [d] }
  | _ => none }
def fnStringLenEndIsUnescapedCloserRow : OpenClaim := { program := "qxb6000755a", sum := "9ea7316e7b607387686bf35b7435c6b0d23fde0f120db641fa0cea4897262049", func := "example.com/low-fences/low-fences/zzlaws_internal_gomod_b1.FnStringLenEndIsUnescapedCloser", spec := "fnStringLenEndIsUnescapedCloser", inPlace := ["internal/bytealg.IndexByteString"], apart := false }
def FnStringLenEndIsUnescapedCloserSaid : Prop := fnStringLenEndIsUnescapedCloserRow.holds Try.pinned (OpenSpec.ofChange fnStringLenEndIsUnescapedCloserSpec)

/-- ITS FALSE NEIGHBOUR: 'it returns false'. Refute it at one input. -/
def fnStringLenEndIsUnescapedCloserWrong : ChangeSpec := { name := "fnStringLenEndIsUnescapedCloser", fn := fun _ => fun
  | [d] => { results := [.lit (.bool false)], args := [d] }
  | _ => none }
def FnStringLenEndIsUnescapedCloserWrongFalsely : Prop := fnStringLenEndIsUnescapedCloserRow.holds Try.pinned (OpenSpec.ofChange fnStringLenEndIsUnescapedCloserWrong)

/-- 'zzlaws_internal_gomod_b1.FnStringLenDecidedByPrefix': WHATEVER THE INPUT: true; the input reads as it did. -/
def fnStringLenDecidedByPrefixSpec : ChangeSpec := { name := "fnStringLenDecidedByPrefix", fn := fun _ => fun
  | [d1, d2] => { results := [.lit (.bool true)], args := [d1, d2] }
  | _ => none }
def fnStringLenDecidedByPrefixRow : OpenClaim := { program := "qxb6000755a", sum := "9ea7316e7b607387686bf35b7435c6b0d23fde0f120db641fa0cea4897262049", func := "example.com/low-fences/low-fences/zzlaws_internal_gomod_b1.FnStringLenDecidedByPrefix", spec := "fnStringLenDecidedByPrefix", inPlace := ["internal/bytealg.IndexByteString"], apart := false }
def FnStringLenDecidedByPrefixSaid : Prop := fnStringLenDecidedByPrefixRow.holds Try.pinned (OpenSpec.ofChange fnStringLenDecidedByPrefixSpec)

/-- ITS FALSE NEIGHBOUR: 'it returns false'. Refute it at one input. -/
def fnStringLenDecidedByPrefixWrong : ChangeSpec := { name := "fnStringLenDecidedByPrefix", fn := fun _ => fun
  | [d1, d2] => { results := [.lit (.bool false)], args := [d1, d2] }
  | _ => none }
def FnStringLenDecidedByPrefixWrongFalsely : Prop := fnStringLenDecidedByPrefixRow.holds Try.pinned (OpenSpec.ofChange fnStringLenDecidedByPrefixWrong)

/-- 'zzlaws_internal_gomod_b1.FnIdentLenBoundedAndBlindToFirstByte': WHATEVER THE INPUT: true; the input reads as it did. -/
def fnIdentLenBoundedAndBlindToFirstByteSpec : ChangeSpec := { name := "fnIdentLenBoundedAndBlindToFirstByte", fn := fun _ => fun
  | [d1, d2] => { results := [.lit (.bool true)], args := [d1, d2] }
  | _ => none }
def fnIdentLenBoundedAndBlindToFirstByteRow : OpenClaim := { program := "qxb6000755a", sum := "9ea7316e7b607387686bf35b7435c6b0d23fde0f120db641fa0cea4897262049", func := "example.com/low-fences/low-fences/zzlaws_internal_gomod_b1.FnIdentLenBoundedAndBlindToFirstByte", spec := "fnIdentLenBoundedAndBlindToFirstByte", apart := false }
def FnIdentLenBoundedAndBlindToFirstByteSaid : Prop := fnIdentLenBoundedAndBlindToFirstByteRow.holds Try.pinned (OpenSpec.ofChange fnIdentLenBoundedAndBlindToFirstByteSpec)

/-- ITS FALSE NEIGHBOUR: 'it returns false'. Refute it at one input. -/
def fnIdentLenBoundedAndBlindToFirstByteWrong : ChangeSpec := { name := "fnIdentLenBoundedAndBlindToFirstByte", fn := fun _ => fun
  | [d1, d2] => { results := [.lit (.bool false)], args := [d1, d2] }
  | _ => none }
def FnIdentLenBoundedAndBlindToFirstByteWrongFalsely : Prop := fnIdentLenBoundedAndBlindToFirstByteRow.holds Try.pinned (OpenSpec.ofChange fnIdentLenBoundedAndBlindToFirstByteWrong)

/-- 'zzlaws_internal_gomod_b1.FnIdentLenDecidedByPrefix': WHATEVER THE INPUT: true; the input reads as it did. -/
def fnIdentLenDecidedByPrefixSpec : ChangeSpec := { name := "fnIdentLenDecidedByPrefix", fn := fun _ => fun
  | [d1, d2] => { results := [.lit (.bool true)], args := [d1, d2] }
  | _ => none }
def fnIdentLenDecidedByPrefixRow : OpenClaim := { program := "qxb6000755a", sum := "9ea7316e7b607387686bf35b7435c6b0d23fde0f120db641fa0cea4897262049", func := "example.com/low-fences/low-fences/zzlaws_internal_gomod_b1.FnIdentLenDecidedByPrefix", spec := "fnIdentLenDecidedByPrefix", apart := false }
def FnIdentLenDecidedByPrefixSaid : Prop := fnIdentLenDecidedByPrefixRow.holds Try.pinned (OpenSpec.ofChange fnIdentLenDecidedByPrefixSpec)

/-- ITS FALSE NEIGHBOUR: 'it returns false'. Refute it at one input. -/
def fnIdentLenDecidedByPrefixWrong : ChangeSpec := { name := "fnIdentLenDecidedByPrefix", fn := fun _ => fun
  | [d1, d2] => { results := [.lit (.bool false)], args := [d1, d2] }
  | _ => none }
def FnIdentLenDecidedByPrefixWrongFalsely : Prop := fnIdentLenDecidedByPrefixRow.holds Try.pinned (OpenSpec.ofChange fnIdentLenDecidedByPrefixWrong)

/-- 'zzlaws_internal_gomod_b1.FnIdentLenOnceStoppedStaysStopped': WHATEVER THE INPUT: true; the input reads as it did. -/
def fnIdentLenOnceStoppedStaysStoppedSpec : ChangeSpec := { name := "fnIdentLenOnceStoppedStaysStopped", fn := fun _ => fun
  | [d1, d2] => { results := [.lit (.bool true)], args := [d1, d2] }
  | _ => none }
def fnIdentLenOnceStoppedStaysStoppedRow : OpenClaim := { program := "qxb6000755a", sum := "9ea7316e7b607387686bf35b7435c6b0d23fde0f120db641fa0cea4897262049", func := "example.com/low-fences/low-fences/zzlaws_internal_gomod_b1.FnIdentLenOnceStoppedStaysStopped", spec := "fnIdentLenOnceStoppedStaysStopped", apart := false }
def FnIdentLenOnceStoppedStaysStoppedSaid : Prop := fnIdentLenOnceStoppedStaysStoppedRow.holds Try.pinned (OpenSpec.ofChange fnIdentLenOnceStoppedStaysStoppedSpec)

/-- ITS FALSE NEIGHBOUR: 'it returns false'. Refute it at one input. -/
def fnIdentLenOnceStoppedStaysStoppedWrong : ChangeSpec := { name := "fnIdentLenOnceStoppedStaysStopped", fn := fun _ => fun
  | [d1, d2] => { results := [.lit (.bool false)], args := [d1, d2] }
  | _ => none }
def FnIdentLenOnceStoppedStaysStoppedWrongFalsely : Prop := fnIdentLenOnceStoppedStaysStoppedRow.holds Try.pinned (OpenSpec.ofChange fnIdentLenOnceStoppedStaysStoppedWrong)

end Rows
end Go.Proofs.Qxb6000755a
