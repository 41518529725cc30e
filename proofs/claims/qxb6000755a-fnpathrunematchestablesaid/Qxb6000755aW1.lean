import Derived.Test.Qxb6000755aRows
import Derived.WalkKit
import Derived.WalkSpells
import Derived.WalkLawsBesides
import Derived.Below
import Derived.BigQuiet
import Derived.Deep.QuietTactic
import Derived.Laws.StandIn
import Derived.Laws.Runes
import Derived.Lib.Bytealg
import Derived.LoopN
import Derived.Outline
namespace Go.Proofs.Qxb6000755a.fnPathRuneMatchesTable
open Go.RowKit

def sep : List UInt8 := [45, 46, 95, 126, 43]

theorem call33 (s : ByteArray) (c : Int) (w : World) : (callFunc 33 #[.string s, .int .u8 c]).run Try.prog w = .ok (.value (.int .i64 (Lib.indexByte s.data.toList c.toNat.toUInt8))) w := by
  rw [run_callFunc_indexByte Try.func33 (by kernel_rfl) (by kernel_rfl) (by kernel_rfl) (by kernel_rfl), Lib.run_indexByteString]
  rfl

theorem indexByte29 (s : ByteArray) (c : Int) (w : World) :
    Calls Try.prog 29 #[.string s, .int .u8 c] w fun e w' => e = .returned (.int .i64 (Lib.indexByte s.data.toList c.toNat.toUInt8)) ∧ w = w' := by
  have h := call33 s c w
  go_enter Try.func29, Try.ntmps29
  go_wp2
  go_ret
  exact ⟨rfl, rfl⟩

theorem indexByte26 (s : ByteArray) (c : Int) (w : World) :
    Calls Try.prog 26 #[.string s, .int .u8 c] w fun e w' => e = .returned (.int .i64 (Lib.indexByte s.data.toList c.toNat.toUInt8)) ∧ w = w' := by
  go_enter Try.func26, Try.ntmps26
  go_wp2_with fail
  refine (indexByte29 _ _ _).mono ?_
  rintro e w1 ⟨rfl, rfl⟩
  go_wp2
  go_ret
  exact ⟨rfl, rfl⟩

set_option maxHeartbeats 1000000 in
theorem validRune_any (r : Int) (w : World) : Calls Try.prog 30 #[.int .i32 r] w fun e w' => e = .returned (.bool (validRune r)) ∧ w = w' := by
  by_cases h0 : 0 ≤ r
  · by_cases h1 : r < 55296
    · go_enter Try.func30, Try.ntmps30
      go_wp2
      go_ret
      exact ⟨by simp [validRune, h0, h1], rfl⟩
    · have h1' : decide (r < 55296) = false := by simpa using h1
      by_cases h2 : 57343 < r
      · by_cases h3 : r ≤ 1114111
        · go_enter Try.func30, Try.ntmps30
          go_wp2
          go_ret
          exact ⟨by simp [validRune, h2, h3], rfl⟩
        · have h3' : decide (r ≤ 1114111) = false := by simpa using h3
          go_enter Try.func30, Try.ntmps30
          go_wp2
          go_ret
          exact ⟨by simp [validRune]; omega, rfl⟩
      · have h2' : decide (57343 < r) = false := by simpa using h2
        go_enter Try.func30, Try.ntmps30
        go_wp2
        go_ret
        exact ⟨by simp [validRune]; omega, rfl⟩
  · have h0' : decide (0 ≤ r) = false := by simpa using h0
    have h2' : decide (57343 < r) = false := by simp; omega
    go_enter Try.func30, Try.ntmps30
    go_wp2
    go_ret
    exact ⟨by simp [validRune]; omega, rfl⟩
end Go.Proofs.Qxb6000755a.fnPathRuneMatchesTable
