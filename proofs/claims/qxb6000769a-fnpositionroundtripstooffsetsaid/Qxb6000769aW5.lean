import Derived.Test.Qxb6000769aW4
namespace Go.Proofs.Qxb6000769a.fnPositionRoundTripsToOffset
open Go.RowKit

theorem walk_big (a0 : Option Addr) (len cap : Nat) (off : Int) (w : World) (h : 1048576 < len) :
    Calls Try.prog 8 #[.slice a0 len cap, .int .i64 off] w fun e w' => e = .returned (.bool true) ∧ Below w.heap.size w w' := by
  go_enter Try.func8, Try.ntmps8
  go_wp2_with fail
  refine (zzBytes_big a0 len cap off w h).mono ?_
  rintro e w1 ⟨rfl, rfl⟩
  go_wp2_with fail
  go_ret
  exact ⟨rfl, Below.refl _ _⟩

theorem walk_out (a0 : Option Addr) (len cap : Nat) (off : Int) (w : World) (h : len ≤ 1048576) (ho : off < 0 ∨ 2147483647 < off) :
    Calls Try.prog 8 #[.slice a0 len cap, .int .i64 off] w fun e w' => e = .returned (.bool true) ∧ Below w.heap.size w w' := by
  by_cases h0 : off < 0
  · clear ho
    go_enter Try.func8, Try.ntmps8
    go_wp2_with fail
    refine (zzBytes_ok a0 len cap off w h).mono ?_
    rintro e w1 ⟨rfl, rfl⟩
    go_wp2_with fail
    go_ret
    exact ⟨rfl, Below.refl _ _⟩
  · have h1 : 2147483647 < off := by omega
    have h0' : decide (off < 0) = false := by simpa using h0
    clear ho
    go_enter Try.func8, Try.ntmps8
    go_wp2_with fail
    refine (zzBytes_ok a0 len cap off w h).mono ?_
    rintro e w1 ⟨rfl, rfl⟩
    go_wp2_with fail
    go_ret
    exact ⟨rfl, Below.refl _ _⟩

theorem walk_nil (off : Int) (w : World) (h0 : 0 ≤ off) (h1 : off ≤ 2147483647) :
    Calls Try.prog 8 #[.slice none 0 0, .int .i64 off] w fun e w' => e = .returned (.bool true) ∧ Below w.heap.size w w' := by
  have h0' : decide (off < 0) = false := by simp; omega
  have h1' : decide (2147483647 < off) = false := by simp; omega
  go_enter Try.func8, Try.ntmps8
  go_wp2_with fail
  refine (zzBytes_ok none 0 0 off w (by omega)).mono ?_
  rintro e w1 ⟨rfl, rfl⟩
  go_wp2_with fail
  refine (zzPosition_nil off _ h0).mono ?_
  rintro e w2 ⟨rfl, hw⟩
  go_wp2_with fail
  refine (lineStart_one _ _).mono ?_
  rintro e w3 ⟨rfl, rfl⟩
  go_wp2_with fail
  refine wp_loop_rounds 1 ?_
  rw [rounds_succ]
  go_wp2_with fail
  go_ret
  exact ⟨rfl, hw⟩
end Go.Proofs.Qxb6000769a.fnPositionRoundTripsToOffset
