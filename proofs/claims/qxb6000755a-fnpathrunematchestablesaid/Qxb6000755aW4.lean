import Derived.Test.Qxb6000755aW3
namespace Go.Proofs.Qxb6000755a.fnPathRuneMatchesTable
open Go.RowKit

def T : List UInt8 := [97, 98, 99, 100, 101, 102, 103, 104, 105, 106, 107, 108, 109, 110, 111, 112, 113, 114, 115, 116, 117, 118, 119, 120, 121, 122, 65, 66, 67, 68, 69, 70, 71, 72, 73, 74, 75, 76, 77, 78, 79, 80, 81, 82, 83, 84, 85, 86, 87, 88, 89, 90, 48, 49, 50, 51, 52, 53, 54, 55, 56, 57, 45, 46, 95, 126, 43]
def met (r : Int) (k : Nat) : Bool := (T.take k).any fun b => (b.toNat : Int) == r

theorem met_succ (r : Int) (k : Nat) (hk : k < 67) : met r (k + 1) = (met r k || ((T.getD k 0).toNat : Int) == r) := by
  have hl : k < T.length := hk
  unfold met
  rw [List.take_add_one, List.any_append]
  simp [hl]

theorem eqAt (k : Nat) (hk : k < 67) (r : Int) {b : Bool} (h : (wrap32 ((((⟨⟨T⟩⟩ : ByteArray)[k]'hk).toNat : Nat) : Int) == r) = b) : b = (((T.getD k 0).toNat : Int) == r) := by
  subst h
  have e : ((⟨⟨T⟩⟩ : ByteArray)[k]'hk) = T.getD k 0 := by
    show T[k]'hk = _
    simp [show k < T.length from hk]
    rfl
  rw [e]
  have := UInt8.toNat_lt (T.getD k 0)
  rw [show wrap32 ((T.getD k 0).toNat : Int) = ((T.getD k 0).toNat : Int) by unfold wrap32; omega]

theorem plain (r : Int) (h0 : 0 ≤ r) (h1 : r < 128) : (pathR r == met r 67) = true := by
  obtain ⟨n, rfl⟩ := Int.eq_ofNat_of_zero_le h0
  have hn : n < 128 := by omega
  revert n
  intro n _ _ hn
  have : ∀ m : Fin 128, (pathR ((m.val : Nat) : Int) == met ((m.val : Nat) : Int) 67) = true := by decide +kernel
  exact this ⟨n, hn⟩

theorem plainOut (r : Int) (h : ¬ (0 ≤ r ∧ r < 128)) : pathR r = false := by
  unfold pathR idxR
  rw [if_neg h, if_neg (by omega), if_neg (by omega), if_neg (by omega)]
  rfl

set_option maxRecDepth 100000 in
set_option maxHeartbeats 1000000 in
theorem walkB (r : Int) (w : World) : Calls Try.prog 3 #[.int .i32 r] w fun e w' => e = .returned (.bool true) ∧ Below w.heap.size w w' := by
  by_cases h : 0 ≤ r ∧ r < 128
  · obtain ⟨h0, h1⟩ := h
    go_enter Try.func3, Try.ntmps3
    go_wp2_with fail
    go_loop [3, 4] (fun v i => ∃ k : Nat, k ≤ 67 ∧ v = .bool (met r k) ∧ i = .int .i64 k) (fun _ i => 67 - (intOf i).toNat)
    · exact ⟨0, by omega, rfl, rfl⟩
    obtain ⟨k, hk, rfl, rfl⟩ := hrel
    rcases Nat.lt_or_ge k 67 with hlt | hge
    · have hc : ((k : Int) < 67) := by omega
      go_wp2_with fail
      · rename_i hm
        refine ⟨⟨k + 1, by omega, ?_, by simp⟩, by simp [intOf]; omega⟩
        rw [met_succ r k hlt, ← eqAt k hlt r hm]
        simp
      · rename_i hm
        refine ⟨⟨k + 1, by omega, ?_, by simp⟩, by simp [intOf]; omega⟩
        rw [met_succ r k hlt, ← eqAt k hlt r hm]
        simp
    · have hc : decide ((k : Int) < 67) = false := by simp; omega
      have Z : Hid _ := zzPathRune r
      have P : Hid ((pathR r == met r k) = true) := by rw [show k = 67 by omega]; exact plain r h0 h1
      go_wp2_with fail
      refine (Z.out _).mono ?_
      rintro e w1 ⟨rfl, hw⟩
      go_wp2_with fail
      go_ret
      exact ⟨by show Ending.returned (.bool (pathR r == met r k)) = _; rw [P.out], hw⟩
  · have Z := zzPathRune r
    rw [plainOut r h] at Z
    have Z : Hid _ := Z
    have hz : decide (r < 128) = false ∨ 0 ≤ r → decide (r < 128) = false := by
      intro hh
      rcases hh with hh | hh
      · exact hh
      · simp; omega
    by_cases h0 : 0 ≤ r
    · have h1 := hz (.inr h0)
      clear h hz
      go_enter Try.func3, Try.ntmps3
      go_wp2_with fail
      refine (Z.out _).mono ?_
      rintro e w1 ⟨rfl, hw⟩
      go_wp2_with fail
      go_ret
      exact ⟨rfl, hw⟩
    · have h1 : decide (0 ≤ r) = false := by simpa using h0
      clear h hz
      go_enter Try.func3, Try.ntmps3
      go_wp2_with fail
      refine (Z.out _).mono ?_
      rintro e w1 ⟨rfl, hw⟩
      go_wp2_with fail
      go_ret
      exact ⟨rfl, hw⟩
end Go.Proofs.Qxb6000755a.fnPathRuneMatchesTable
