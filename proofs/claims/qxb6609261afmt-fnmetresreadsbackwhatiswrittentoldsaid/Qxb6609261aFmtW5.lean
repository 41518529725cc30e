import Derived.Test.Qxb6609261aFmtW4
namespace Go.Proofs.Qxb6609261aFmt.fnMetres
open Go.RowKit

theorem blank_yes (c : UInt8) (w : World) (h : c = 32 ∨ c = 9) : Calls Tryf.prog 38 #[.int .u8 (c.toNat : Int)] w fun e w' => e = .returned (.bool true) ∧ w = w' :=
  (blank_any c w).mono fun e w' ⟨he, hw⟩ => ⟨by rw [he]; rcases h with rfl | rfl <;> rfl, hw.symm⟩

theorem blank_no (c : UInt8) (w : World) (h : c ≠ 32 ∧ c ≠ 9) : Calls Tryf.prog 38 #[.int .u8 (c.toNat : Int)] w fun e w' => e = .returned (.bool false) ∧ w = w' :=
  (blank_any c w).mono fun e w' ⟨he, hw⟩ => ⟨by rw [he]; simp [h.1, h.2], hw.symm⟩

set_option maxHeartbeats 1000000 in
theorem split_core (b : Nat) (T : List UInt8) (m : Nat) (w : World) (hc : w.cell? ⟨b, 0, none⟩ = some (.string ⟨T.toArray⟩))
    (hm : 1 ≤ m) (hl : m < T.length) (hT : T.length ≤ 1000)
    (h0 : (⟨T.toArray⟩ : ByteArray)[0]'(show 0 < T.length by omega) = 32) (h1 : ∀ (k : Nat) (h : k < T.length), 1 ≤ k → k < m → (⟨T.toArray⟩ : ByteArray)[k]'h ≠ 32 ∧ (⟨T.toArray⟩ : ByteArray)[k]'h ≠ 9)
    (h2 : (⟨T.toArray⟩ : ByteArray)[m]'hl = 9) (h3 : 2 ≤ m) :
    Calls Tryf.prog 30 #[.pointer (some ⟨b, 0, none⟩)] w fun e w' => e = .returned (.tuple #[.string ⟨((T.take m).drop 1).toArray⟩, .string ⟨(T.drop m).toArray⟩]) ∧ Below w.heap.size w w' := by
  have B0 := fun w => blank_yes ((⟨T.toArray⟩ : ByteArray)[0]'(show 0 < T.length by omega)) w (Or.inl h0)
  have BM := fun w => blank_yes ((⟨T.toArray⟩ : ByteArray)[m]'hl) w (Or.inr h2)
  have BK := fun k (h : k < T.length) a b w => blank_no ((⟨T.toArray⟩ : ByteArray)[k]'h) w (h1 k h a b)
  have HB0 : Hid (∀ w, Calls Tryf.prog 38 #[.int .u8 (((⟨T.toArray⟩ : ByteArray)[0]'(show 0 < T.length by omega)).toNat : Int)] w fun e w' => e = .returned (.bool true) ∧ w = w') := B0
  have HBM : Hid (∀ w, Calls Tryf.prog 38 #[.int .u8 (((⟨T.toArray⟩ : ByteArray)[m]'hl).toNat : Int)] w fun e w' => e = .returned (.bool true) ∧ w = w') := BM
  have HBK : Hid (∀ (k : Nat) (h : k < T.length), 1 ≤ k → k < m → ∀ w, Calls Tryf.prog 38 #[.int .u8 (((⟨T.toArray⟩ : ByteArray)[k]'h).toNat : Int)] w fun e w' => e = .returned (.bool false) ∧ w = w') := BK
  clear B0 BM BK h0 h1 h2
  go_enter Tryf.func30, Tryf.ntmps30
  go_wp2_with fail
  go_loop [4] (fun i => ∃ k : Nat, k ≤ 1 ∧ i = .int .i64 k) (fun i => 1 - (intOf i).toNat)
  case atStart => exact ⟨0, Nat.zero_le _, rfl⟩
  case round =>
    obtain ⟨k, hk, rfl⟩ := hrel
    by_cases hk0 : k = 0
    · subst hk0
      go_wp2_with fail
      refine (HB0.out _).mono ?_
      rintro e w1 ⟨rfl, rfl⟩
      go_wp2_with fail
      go_round
      case rel => exact ⟨1, by omega, rfl⟩
      case measure => simp [intOf]
    · obtain rfl : k = 1 := by omega
      go_wp2_with fail
      refine (HBK.out 1 (by omega) (by omega) (by omega) _).mono ?_
      rintro e w1 ⟨rfl, rfl⟩
      go_wp2_with fail
      go_loop [5] (fun i => ∃ k : Nat, 1 ≤ k ∧ k ≤ m ∧ i = .int .i64 k) (fun i => m - (intOf i).toNat)
      case atStart => exact ⟨1, Nat.le_refl _, hm, rfl⟩
      case round =>
        obtain ⟨k, hk1, hk2, rfl⟩ := hrel
        by_cases hlt : k < m
        · have g1 : (k : Int) < (T.length : Int) := by omega
          go_wp2_with fail
          refine (HBK.out k (by omega) hk1 hlt _).mono ?_
          rintro e w1 ⟨rfl, rfl⟩
          go_wp2_with fail
          go_round
          case rel => exact ⟨k + 1, by omega, by omega, by go_num⟩
          case measure => simp [intOf]; omega
        · obtain rfl : k = m := by omega
          have g1 : (k : Int) < (T.length : Int) := by omega
          go_wp2_with fail
          refine (HBM.out _).mono ?_
          rintro e w1 ⟨rfl, rfl⟩
          go_wp2_with fail
          go_quiet (fail)
          go_wp2
          go_ret2
          have e1 : (⟨T.toArray⟩ : ByteArray).extract 1 k = ⟨((T.take k).drop 1).toArray⟩ := bs_extract _ _ _
          have e2 : (⟨T.toArray⟩ : ByteArray).extract k T.length = ⟨(T.drop k).toArray⟩ := by
            rw [bs_extract, List.take_length]
          refine ⟨?_, below_drewN (Below.refl _ _) _⟩
          rw [← e1, ← e2]
          rfl
end Go.Proofs.Qxb6609261aFmt.fnMetres
