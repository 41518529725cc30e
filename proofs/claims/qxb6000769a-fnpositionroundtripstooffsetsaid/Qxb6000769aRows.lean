/-
  No cell of these rows narrows 'for every input' (looked for: loops, veiled, ifaces, maps, wideKeys, modest, calm, conditions, laid).
  DERIVED. THE GIVEN ROWS OF THIS SEAT. 7 by the template 'for every input the law returns true; each argument reads behind the call as it read before'; 0 by the template 'total and deterministic' (their statements: Qxb6000769aTotals.lean).
  GIVEN WITH THE SEED: the statements are not yours to turn. If you find one false, say at which input.
  Laid BY PROGRAM, IN A SANDBOX (cutbox-rows.mjs): the forced cells as the released guide's own fill.sh prints them over the translation 7341c826d10c2f14… (all of the seat's roots in one cut). By AI agents, Wed Nov 11 2026. No macro, syntax, notation, axiom, sorry.
-/
import Derived.Test.Qxb6000769aChecked
import GoSem.Claim
import GoSem.ClaimJoined
import GoSem.ClaimMapViews
import Derived.JoinedTies
import Derived.KernelRfl
namespace Go.Proofs.Qxb6000769a
/- THE CELL 'sum', in the pinned program and in every row, IS THE sha256 OF THE DUMP (.gsa) THAT Qxb6000769aProg.lean LOADS. Nothing in Lean hashes anything: it is a label: what it is worth is what the hold of that sum in a sandbox is worth. -/
noncomputable def Try.pinned : Pinned := { name := "qxb6000769a", sum := "7341c826d10c2f14f5a97594bfa24041087877019a37b22ef3f9733827feb0a8", checked := Try.checked }
namespace Rows
def none {H : Type} : Left H := { results := [], args := [] }

/-- 'zzlaws_config_b1.FnSettingNameNestsAssociatively': WHATEVER THE INPUT: true; the input reads as it did. -/
def fnSettingNameNestsAssociativelySpec : ChangeSpec := { name := "fnSettingNameNestsAssociatively", fn := fun _ => fun
  | [d1, d2, d3] => { results := [.lit (.bool true)], args := [d1, d2, d3] }
  | _ => none }
def fnSettingNameNestsAssociativelyRow : OpenClaim := { program := "qxb6000769a", sum := "7341c826d10c2f14f5a97594bfa24041087877019a37b22ef3f9733827feb0a8", func := "example.com/table-to-topic/table-to-topic/zzlaws_config_b1.FnSettingNameNestsAssociatively", spec := "fnSettingNameNestsAssociatively", apart := false }
def FnSettingNameNestsAssociativelySaid : Prop := fnSettingNameNestsAssociativelyRow.holds Try.pinned (OpenSpec.ofChange fnSettingNameNestsAssociativelySpec)

/-- ITS FALSE NEIGHBOUR: 'it returns false'. Refute it at one input. -/
def fnSettingNameNestsAssociativelyWrong : ChangeSpec := { name := "fnSettingNameNestsAssociatively", fn := fun _ => fun
  | [d1, d2, d3] => { results := [.lit (.bool false)], args := [d1, d2, d3] }
  | _ => none }
def FnSettingNameNestsAssociativelyWrongFalsely : Prop := fnSettingNameNestsAssociativelyRow.holds Try.pinned (OpenSpec.ofChange fnSettingNameNestsAssociativelyWrong)

/-- 'zzlaws_config_b1.FnSettingNameInjectiveInKey': WHATEVER THE INPUT: true; the input reads as it did. -/
def fnSettingNameInjectiveInKeySpec : ChangeSpec := { name := "fnSettingNameInjectiveInKey", fn := fun _ => fun
  | [d1, d2, d3] => { results := [.lit (.bool true)], args := [d1, d2, d3] }
  | _ => none }
def fnSettingNameInjectiveInKeyRow : OpenClaim := { program := "qxb6000769a", sum := "7341c826d10c2f14f5a97594bfa24041087877019a37b22ef3f9733827feb0a8", func := "example.com/table-to-topic/table-to-topic/zzlaws_config_b1.FnSettingNameInjectiveInKey", spec := "fnSettingNameInjectiveInKey", apart := false }
def FnSettingNameInjectiveInKeySaid : Prop := fnSettingNameInjectiveInKeyRow.holds Try.pinned (OpenSpec.ofChange fnSettingNameInjectiveInKeySpec)

/-- ITS FALSE NEIGHBOUR: 'it returns false'. Refute it at one input. -/
def fnSettingNameInjectiveInKeyWrong : ChangeSpec := { name := "fnSettingNameInjectiveInKey", fn := fun _ => fun
  | [d1, d2, d3] => { results := [.lit (.bool false)], args := [d1, d2, d3] }
  | _ => none }
def FnSettingNameInjectiveInKeyWrongFalsely : Prop := fnSettingNameInjectiveInKeyRow.holds Try.pinned (OpenSpec.ofChange fnSettingNameInjectiveInKeyWrong)

/-- 'zzlaws_config_b1.FnDisplayNameNonEmptyAndIdempotent': WHATEVER THE INPUT: true; the input reads as it did. -/
def fnDisplayNameNonEmptyAndIdempotentSpec : ChangeSpec := { name := "fnDisplayNameNonEmptyAndIdempotent", fn := fun _ => fun
  | [d] => { results := [.lit (.bool true)], args := [d] }
  | _ => none }
def fnDisplayNameNonEmptyAndIdempotentRow : OpenClaim := { program := "qxb6000769a", sum := "7341c826d10c2f14f5a97594bfa24041087877019a37b22ef3f9733827feb0a8", func := "example.com/table-to-topic/table-to-topic/zzlaws_config_b1.FnDisplayNameNonEmptyAndIdempotent", spec := "fnDisplayNameNonEmptyAndIdempotent", apart := false }
def FnDisplayNameNonEmptyAndIdempotentSaid : Prop := fnDisplayNameNonEmptyAndIdempotentRow.holds Try.pinned (OpenSpec.ofChange fnDisplayNameNonEmptyAndIdempotentSpec)

/-- ITS FALSE NEIGHBOUR: 'it returns false'. Refute it at one input. -/
def fnDisplayNameNonEmptyAndIdempotentWrong : ChangeSpec := { name := "fnDisplayNameNonEmptyAndIdempotent", fn := fun _ => fun
  | [d] => { results := [.lit (.bool false)], args := [d] }
  | _ => none }
def FnDisplayNameNonEmptyAndIdempotentWrongFalsely : Prop := fnDisplayNameNonEmptyAndIdempotentRow.holds Try.pinned (OpenSpec.ofChange fnDisplayNameNonEmptyAndIdempotentWrong)

/-- 'zzlaws_config_b1.FnDisplayNameShowsNestedSettingVerbatim': WHATEVER THE INPUT: true; the input reads as it did. -/
def fnDisplayNameShowsNestedSettingVerbatimSpec : ChangeSpec := { name := "fnDisplayNameShowsNestedSettingVerbatim", fn := fun _ => fun
  | [d1, d2] => { results := [.lit (.bool true)], args := [d1, d2] }
  | _ => none }
def fnDisplayNameShowsNestedSettingVerbatimRow : OpenClaim := { program := "qxb6000769a", sum := "7341c826d10c2f14f5a97594bfa24041087877019a37b22ef3f9733827feb0a8", func := "example.com/table-to-topic/table-to-topic/zzlaws_config_b1.FnDisplayNameShowsNestedSettingVerbatim", spec := "fnDisplayNameShowsNestedSettingVerbatim", apart := false }
def FnDisplayNameShowsNestedSettingVerbatimSaid : Prop := fnDisplayNameShowsNestedSettingVerbatimRow.holds Try.pinned (OpenSpec.ofChange fnDisplayNameShowsNestedSettingVerbatimSpec)

/-- ITS FALSE NEIGHBOUR: 'it returns false'. Refute it at one input. -/
def fnDisplayNameShowsNestedSettingVerbatimWrong : ChangeSpec := { name := "fnDisplayNameShowsNestedSettingVerbatim", fn := fun _ => fun
  | [d1, d2] => { results := [.lit (.bool false)], args := [d1, d2] }
  | _ => none }
def FnDisplayNameShowsNestedSettingVerbatimWrongFalsely : Prop := fnDisplayNameShowsNestedSettingVerbatimRow.holds Try.pinned (OpenSpec.ofChange fnDisplayNameShowsNestedSettingVerbatimWrong)

/-- 'zzlaws_config_b1.FnPositionMatchesScanModel': WHATEVER THE INPUT: true; the input reads as it did. -/
def fnPositionMatchesScanModelSpec : ChangeSpec := { name := "fnPositionMatchesScanModel", fn := fun _ => fun
  | [d1, d2] => { results := [.lit (.bool true)], args := [d1, d2] }
  | _ => none }
def fnPositionMatchesScanModelRow : OpenClaim := { program := "qxb6000769a", sum := "7341c826d10c2f14f5a97594bfa24041087877019a37b22ef3f9733827feb0a8", func := "example.com/table-to-topic/table-to-topic/zzlaws_config_b1.FnPositionMatchesScanModel", spec := "fnPositionMatchesScanModel", inPlace := ["internal/bytealg.Count", "internal/bytealg.IndexByte", "internal/bytealg.Index"], named := ["internal/bytealg.MaxLen"], apart := false }
def FnPositionMatchesScanModelSaid : Prop := fnPositionMatchesScanModelRow.holds Try.pinned (OpenSpec.ofChange fnPositionMatchesScanModelSpec)

/-- ITS FALSE NEIGHBOUR: 'it returns false'. Refute it at one input. -/
def fnPositionMatchesScanModelWrong : ChangeSpec := { name := "fnPositionMatchesScanModel", fn := fun _ => fun
  | [d1, d2] => { results := [.lit (.bool false)], args := [d1, d2] }
  | _ => none }
def FnPositionMatchesScanModelWrongFalsely : Prop := fnPositionMatchesScanModelRow.holds Try.pinned (OpenSpec.ofChange fnPositionMatchesScanModelWrong)

/-- 'zzlaws_config_b1.FnPositionRoundTripsToOffset': WHATEVER THE INPUT: true; the input reads as it did. -/
def fnPositionRoundTripsToOffsetSpec : ChangeSpec := { name := "fnPositionRoundTripsToOffset", fn := fun _ => fun
  | [d1, d2] => { results := [.lit (.bool true)], args := [d1, d2] }
  | _ => none }
def fnPositionRoundTripsToOffsetRow : OpenClaim := { program := "qxb6000769a", sum := "7341c826d10c2f14f5a97594bfa24041087877019a37b22ef3f9733827feb0a8", func := "example.com/table-to-topic/table-to-topic/zzlaws_config_b1.FnPositionRoundTripsToOffset", spec := "fnPositionRoundTripsToOffset", inPlace := ["internal/bytealg.Count", "internal/bytealg.IndexByte", "internal/bytealg.Index"], named := ["internal/bytealg.MaxLen"], apart := false }
def FnPositionRoundTripsToOffsetSaid : Prop := fnPositionRoundTripsToOffsetRow.holds Try.pinned (OpenSpec.ofChange fnPositionRoundTripsToOffsetSpec)

/-- ITS FALSE NEIGHBOUR: 'it returns false'. Refute it at one input. -/
def fnPositionRoundTripsToOffsetWrong : ChangeSpec := { name := "fnPositionRoundTripsToOffset", fn := fun _ => fun
  | [d1, d2] => { results := [.lit (.bool false)], args := [d1, d2] }
  | _ => none }
def FnPositionRoundTripsToOffsetWrongFalsely : Prop := fnPositionRoundTripsToOffsetRow.holds Try.pinned (OpenSpec.ofChange fnPositionRoundTripsToOffsetWrong)

/-- 'zzlaws_config_b1.FnPositionMonotoneAndClamped': WHATEVER THE INPUT: true; the input reads as it did. -/
def fnPositionMonotoneAndClampedSpec : ChangeSpec := { name := "fnPositionMonotoneAndClamped", fn := fun _ => fun
  | [d1, d2, d3] => { results := [.lit (.bool true)], args := [d1, d2, d3] }
  | _ => none }
def fnPositionMonotoneAndClampedRow : OpenClaim := { program := "qxb6000769a", sum := "7341c826d10c2f14f5a97594bfa24041087877019a37b22ef3f9733827feb0a8", func := "example.com/table-to-topic/table-to-topic/zzlaws_config_b1.FnPositionMonotoneAndClamped", spec := "fnPositionMonotoneAndClamped", inPlace := ["internal/bytealg.Count", "internal/bytealg.IndexByte", "internal/bytealg.Index"], named := ["internal/bytealg.MaxLen"], apart := false }
def FnPositionMonotoneAndClampedSaid : Prop := fnPositionMonotoneAndClampedRow.holds Try.pinned (OpenSpec.ofChange fnPositionMonotoneAndClampedSpec)

/-- ITS FALSE NEIGHBOUR: 'it returns false'. Refute it at one input. -/
def fnPositionMonotoneAndClampedWrong : ChangeSpec := { name := "fnPositionMonotoneAndClamped", fn := fun _ => fun
  | [d1, d2, d3] => { results := [.lit (.bool false)], args := [d1, d2, d3] }
  | _ => none }
def FnPositionMonotoneAndClampedWrongFalsely : Prop := fnPositionMonotoneAndClampedRow.holds Try.pinned (OpenSpec.ofChange fnPositionMonotoneAndClampedWrong)

end Rows
end Go.Proofs.Qxb6000769a
