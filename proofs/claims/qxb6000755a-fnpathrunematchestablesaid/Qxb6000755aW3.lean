import Derived.Test.Qxb6000755aW2
namespace Go.Proofs.Qxb6000755a.fnPathRuneMatchesTable
open Go.RowKit

theorem containsRune (r : Int) (w : World) :
    Calls Try.prog 24 #[.string ⟨#[45, 46, 95, 126, 43]⟩, .int .i32 r] w fun e w' => e = .returned (.bool (decide (0 ≤ idxR r))) ∧ Below w.heap.size w w' := by
  go_enter Try.func24, Try.ntmps24
  go_wp2_with fail
  refine (indexRune _ _).mono ?_
  rintro e w1 ⟨rfl, hw⟩
  go_wp2_with fail
  go_ret
  exact ⟨by simp, hw⟩

def pathR (r : Int) : Bool :=
  if 97 ≤ r ∧ r ≤ 122 then true else if 65 ≤ r ∧ r ≤ 90 then true else if 48 ≤ r ∧ r ≤ 57 then true else decide (0 ≤ idxR r)

set_option maxHeartbeats 1000000 in
theorem pathRune (r : Int) (w : World) :
    Calls Try.prog 21 #[.int .i32 r] w fun e w' => e = .returned (.bool (pathR r)) ∧ Below w.heap.size w w' := by
  unfold pathR
  by_cases h1 : 97 ≤ r ∧ r ≤ 122
  · rw [if_pos h1]
    obtain ⟨ha, hb⟩ := h1
    go_enter Try.func21, Try.ntmps21
    go_wp2_with fail
    go_ret
    exact ⟨rfl, Below.refl _ _⟩
  rw [if_neg h1]
  by_cases h2 : 65 ≤ r ∧ r ≤ 90
  · rw [if_pos h2]
    obtain ⟨ha, hb⟩ := h2
    have hc : decide (97 ≤ r) = false := by simp; omega
    go_enter Try.func21, Try.ntmps21
    go_wp2_with fail
    go_ret
    exact ⟨rfl, Below.refl _ _⟩
  rw [if_neg h2]
  by_cases h3 : 48 ≤ r ∧ r ≤ 57
  · rw [if_pos h3]
    obtain ⟨ha, hb⟩ := h3
    have hc : decide (97 ≤ r) = false := by simp; omega
    have hd : decide (65 ≤ r) = false := by simp; omega
    go_enter Try.func21, Try.ntmps21
    go_wp2_with fail
    go_ret
    exact ⟨rfl, Below.refl _ _⟩
  rw [if_neg h3]
  have C : Hid (∀ w, Calls Try.prog 24 #[.string ⟨#[45, 46, 95, 126, 43]⟩, .int .i32 r] w fun e w' => e = .returned (.bool (decide (0 ≤ idxR r))) ∧ Below w.heap.size w w') := containsRune r
  generalize decide (0 ≤ idxR r) = B at *
  by_cases a1 : 97 ≤ r
  · have b1 : decide (r ≤ 122) = false := by simp; omega
    have a2 : 65 ≤ r := by omega
    have b2 : decide (r ≤ 90) = false := by simp; omega
    have a3 : 48 ≤ r := by omega
    have b3 : decide (r ≤ 57) = false := by simp; omega
    clear h1 h2 h3
    go_enter Try.func21, Try.ntmps21
    go_wp2_with fail
    refine (C.out _).mono ?_
    rintro e w1 ⟨rfl, hw⟩
    go_wp2_with fail
    go_ret
    exact ⟨rfl, hw⟩
  have b1 : decide (97 ≤ r) = false := by simpa using a1
  by_cases a2 : 65 ≤ r
  · have b2 : decide (r ≤ 90) = false := by simp; omega
    have a3 : 48 ≤ r := by omega
    have b3 : decide (r ≤ 57) = false := by simp; omega
    clear h1 h2 h3 a1
    go_enter Try.func21, Try.ntmps21
    go_wp2_with fail
    refine (C.out _).mono ?_
    rintro e w1 ⟨rfl, hw⟩
    go_wp2_with fail
    go_ret
    exact ⟨rfl, hw⟩
  have b2 : decide (65 ≤ r) = false := by simpa using a2
  by_cases a3 : 48 ≤ r
  · have b3 : decide (r ≤ 57) = false := by simp; omega
    clear h1 h2 h3 a1 a2
    go_enter Try.func21, Try.ntmps21
    go_wp2_with fail
    refine (C.out _).mono ?_
    rintro e w1 ⟨rfl, hw⟩
    go_wp2_with fail
    go_ret
    exact ⟨rfl, hw⟩
  have b3 : decide (48 ≤ r) = false := by simpa using a3
  clear h1 h2 h3 a1 a2 a3
  go_enter Try.func21, Try.ntmps21
  go_wp2_with fail
  refine (C.out _).mono ?_
  rintro e w1 ⟨rfl, hw⟩
  go_wp2_with fail
  go_ret
  exact ⟨rfl, hw⟩

theorem zzPathRune (r : Int) (w : World) :
    Calls Try.prog 11 #[.int .i32 r] w fun e w' => e = .returned (.bool (pathR r)) ∧ Below w.heap.size w w' := by
  go_enter Try.func11, Try.ntmps11
  go_wp2_with fail
  refine (pathRune _ _).mono ?_
  rintro e w1 ⟨rfl, hw⟩
  go_wp2_with fail
  go_ret
  exact ⟨rfl, hw⟩
end Go.Proofs.Qxb6000755a.fnPathRuneMatchesTable
