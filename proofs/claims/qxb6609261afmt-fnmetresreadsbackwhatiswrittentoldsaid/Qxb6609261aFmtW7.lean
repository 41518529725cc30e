import Derived.Test.Qxb6609261aFmtW6
import Derived.WideLaws
namespace Go.Proofs.Qxb6609261aFmt.fnMetres
open Go.RowKit

theorem neq_nil (w : World) : (binOp .neq 44 .nilIface .nilIface).run Tryf.prog w = .ok (.bool false) w := by kernel_rfl

set_option maxHeartbeats 1000000 in
theorem number_pos (b : Nat) (fld : ByteArray) (a : Nat) (mn mx : Int) (t l : List UInt8) (w : World)
    (hc : w.cell? ⟨b, 0, none⟩ = some (.string ⟨(32 :: (t ++ 9 :: [110, 101, 120, 116])).toArray⟩)) (hf : w.frozen? ⟨b, 0, none⟩ = false) (hb : b < w.heap.size)
    (ht : ∀ c ∈ t, c ≠ 32 ∧ c ≠ 9) (h1 : 1 ≤ t.length) (hl : t.length ≤ 60)
    (htrim : ∀ w, Calls Tryf.prog 27 #[.string ⟨t.toArray⟩, .string ⟨#[109]⟩] w fun e w' => e = .returned (.string ⟨l.toArray⟩) ∧ w = w')
    (hparse : ∀ w, Calls Tryf.prog 28 #[.string ⟨l.toArray⟩, .int .i64 2] w fun e w' => e = .returned (.tuple #[.int .i64 (a : Int), .nilIface]) ∧ Below w.heap.size w w')
    (hl0 : 0 < l.length) (hd : 48 ≤ ((⟨l.toArray⟩ : ByteArray)[0]'hl0).toNat)
    (_ha : (a : Int) ≤ 9223372036854775807) (hmn : mn ≤ a) (hmx : (a : Int) ≤ mx) :
    Calls Tryf.prog 20 #[.pointer (some ⟨b, 0, none⟩), .string fld, .int .i64 2, .string ⟨#[109]⟩, .int .i64 mn, .int .i64 mx] w fun e w' =>
      e = .returned (.tuple #[.int .i64 (a : Int), .nilIface]) ∧ w'.cell? ⟨b, 0, none⟩ = some (.string ⟨[9, 110, 101, 120, 116].toArray⟩) ∧ Below b w w' := by
  have HT : Hid (∀ w, Calls Tryf.prog 27 #[.string ⟨t.toArray⟩, .string ⟨#[109]⟩] w fun e w' => e = .returned (.string ⟨l.toArray⟩) ∧ w = w') := htrim
  have HP : Hid (∀ w, Calls Tryf.prog 28 #[.string ⟨l.toArray⟩, .int .i64 2] w fun e w' => e = .returned (.tuple #[.int .i64 (a : Int), .nilIface]) ∧ Below w.heap.size w w') := hparse
  clear htrim hparse
  have hne : t.isEmpty = false := by cases t <;> simp_all
  have hne2 : l.isEmpty = false := List.isEmpty_eq_false_iff.2 (List.ne_nil_of_length_pos hl0)
  have hnn := neq_nil
  have q1 : ((((⟨l.toArray⟩ : ByteArray)[0]'hl0).toNat : Int) == 45) = false := by rw [beq_eq_false_iff_ne]; omega
  have q2 : ((((⟨l.toArray⟩ : ByteArray)[0]'hl0).toNat : Int) == 43) = false := by rw [beq_eq_false_iff_ne]; omega
  have hmn' : ¬ (a : Int) < mn := by omega
  have hmx' : ¬ mx < (a : Int) := by omega
  by_cases hm : mn < 0
  · go_enter Tryf.func20, Tryf.ntmps20
    go_wp2_with fail
    refine (next_any b t _ _ hc hf hb ht h1 (by simp; omega)).mono ?_
    rintro e w1 ⟨rfl, hc1, hb1⟩
    clear hc hf
    go_wp2_with fail
    refine (HT.out _).mono ?_
    rintro e w2 ⟨rfl, rfl⟩
    go_wp2_with fail
    refine (HP.out _).mono ?_
    rintro e w2 ⟨rfl, hb2⟩
    go_wp2_with fail
    go_ret2
    exact ⟨rfl, by rw [hb2.cell (p := ⟨b, 0, none⟩) (Nat.lt_of_lt_of_le hb hb1.size)]; exact hc1, hb1.trans (hb2.mono (Nat.le_trans (Nat.le_of_lt hb) hb1.size))⟩
  · have hm' : decide (mn < 0) = false := by simpa using hm
    go_enter Tryf.func20, Tryf.ntmps20
    go_wp2_with fail
    refine (next_any b t _ _ hc hf hb ht h1 (by simp; omega)).mono ?_
    rintro e w1 ⟨rfl, hc1, hb1⟩
    clear hc hf
    go_wp2_with fail
    refine (HT.out _).mono ?_
    rintro e w2 ⟨rfl, rfl⟩
    go_wp2_with fail
    refine (HP.out _).mono ?_
    rintro e w2 ⟨rfl, hb2⟩
    go_wp2_with fail
    go_ret2
    exact ⟨rfl, by rw [hb2.cell (p := ⟨b, 0, none⟩) (Nat.lt_of_lt_of_le hb hb1.size)]; exact hc1, hb1.trans (hb2.mono (Nat.le_trans (Nat.le_of_lt hb) hb1.size))⟩

set_option maxHeartbeats 1000000 in
theorem number_neg (b : Nat) (fld : ByteArray) (a : Nat) (mn mx : Int) (t l : List UInt8) (w : World)
    (hc : w.cell? ⟨b, 0, none⟩ = some (.string ⟨(32 :: (t ++ 9 :: [110, 101, 120, 116])).toArray⟩)) (hf : w.frozen? ⟨b, 0, none⟩ = false) (hb : b < w.heap.size)
    (ht : ∀ c ∈ t, c ≠ 32 ∧ c ≠ 9) (h1 : 1 ≤ t.length) (hl : t.length ≤ 60) (hl2 : l.length ≤ 60)
    (htrim : ∀ w, Calls Tryf.prog 27 #[.string ⟨t.toArray⟩, .string ⟨#[109]⟩] w fun e w' => e = .returned (.string ⟨(45 :: l).toArray⟩) ∧ w = w')
    (hparse : ∀ w, Calls Tryf.prog 28 #[.string ⟨l.toArray⟩, .int .i64 2] w fun e w' => e = .returned (.tuple #[.int .i64 (a : Int), .nilIface]) ∧ Below w.heap.size w w')
    (ha : (a : Int) ≤ 9223372036854775807) (hm : mn < 0) (hmn : mn ≤ -(a : Int)) (hmx : -(a : Int) ≤ mx) :
    Calls Tryf.prog 20 #[.pointer (some ⟨b, 0, none⟩), .string fld, .int .i64 2, .string ⟨#[109]⟩, .int .i64 mn, .int .i64 mx] w fun e w' =>
      e = .returned (.tuple #[.int .i64 (-(a : Int)), .nilIface]) ∧ w'.cell? ⟨b, 0, none⟩ = some (.string ⟨[9, 110, 101, 120, 116].toArray⟩) ∧ Below b w w' := by
  have HT : Hid (∀ w, Calls Tryf.prog 27 #[.string ⟨t.toArray⟩, .string ⟨#[109]⟩] w fun e w' => e = .returned (.string ⟨(45 :: l).toArray⟩) ∧ w = w') := htrim
  have HP : Hid (∀ w, Calls Tryf.prog 28 #[.string ⟨l.toArray⟩, .int .i64 2] w fun e w' => e = .returned (.tuple #[.int .i64 (a : Int), .nilIface]) ∧ Below w.heap.size w w') := hparse
  clear htrim hparse
  have hne : t.isEmpty = false := by cases t <;> simp_all
  have hnn := neq_nil
  have q1 : ((((⟨(45 :: l).toArray⟩ : ByteArray)[0]'(by simp [ByteArray.size])).toNat : Int) == 45) = true := rfl
  have hmn' : ¬ -(a : Int) < mn := by omega
  have hmx' : ¬ mx < -(a : Int) := by omega
  have hx : (⟨(45 :: l).toArray⟩ : ByteArray).extract 1 (l.length + 1) = ⟨l.toArray⟩ := by
    rw [bs_extract]; simp
  go_enter Tryf.func20, Tryf.ntmps20
  go_wp2_with fail
  refine (next_any b t _ _ hc hf hb ht h1 (by simp; omega)).mono ?_
  rintro e w1 ⟨rfl, hc1, hb1⟩
  clear hc hf
  go_wp2_with fail
  refine (HT.out _).mono ?_
  rintro e w2 ⟨rfl, rfl⟩
  go_wp2_with fail
  refine (HP.out _).mono ?_
  rintro e w2 ⟨rfl, hb2⟩
  go_wp2_with fail
  go_ret2
  exact ⟨rfl, by rw [hb2.cell (p := ⟨b, 0, none⟩) (Nat.lt_of_lt_of_le hb hb1.size)]; exact hc1, hb1.trans (hb2.mono (Nat.le_trans (Nat.le_of_lt hb) hb1.size))⟩
end Go.Proofs.Qxb6609261aFmt.fnMetres
