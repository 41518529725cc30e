import Derived.Test.Qxb6000755aW1
import Derived.WalkMore
import Derived.WalkSmall
namespace Go.Proofs.Qxb6000755a.fnPathRuneMatchesTable
open Go.RowKit

set_option maxRecDepth 100000 in
set_option maxHeartbeats 1000000 in
theorem indexRune_ascii (r : Int) (w : World) (h0 : 0 ≤ r) (h1 : r < 128) :
    Calls Try.prog 27 #[.string ⟨#[45, 46, 95, 126, 43]⟩, .int .i32 r] w fun e w' => e = .returned (.int .i64 (Lib.indexByte sep r.toNat.toUInt8)) ∧ w = w' := by
  go_enter Try.func27, Try.ntmps27
  go_wp2_with fail
  refine (indexByte26 _ _ _).mono ?_
  rintro e w1 ⟨rfl, rfl⟩
  go_wp2_with fail
  go_ret
  exact ⟨rfl, rfl⟩

set_option maxRecDepth 100000 in
set_option maxHeartbeats 1000000 in
theorem indexRune_bad (r : Int) (w : World) (hv : validRune r = false) :
    Calls Try.prog 27 #[.string ⟨#[45, 46, 95, 126, 43]⟩, .int .i32 r] w fun e w' => e = .returned (.int .i64 (-1)) ∧ w = w' := by
  have hne : (r == 65533) = false := by
    rw [beq_eq_false_iff_ne]; rintro rfl; revert hv; decide
  have V : Hid (∀ w, Calls Try.prog 30 #[.int .i32 r] w fun e w' => e = .returned (.bool false) ∧ w = w') := fun w => by rw [← hv]; exact validRune_any r w
  by_cases h0 : 0 ≤ r
  · have h1 : decide (r < 128) = false := by
      simp
      rcases Int.lt_or_le r 128 with h | h
      · simp [validRune] at hv; omega
      · exact h
    clear hv
    go_enter Try.func27, Try.ntmps27
    go_wp2_with fail
    refine (V.out _).mono ?_
    rintro e w1 ⟨rfl, rfl⟩
    go_wp2_with fail
    go_ret
    exact ⟨rfl, rfl⟩
  · have h0' : decide (0 ≤ r) = false := by simpa using h0
    clear hv
    go_enter Try.func27, Try.ntmps27
    go_wp2_with fail
    refine (V.out _).mono ?_
    rintro e w1 ⟨rfl, rfl⟩
    go_wp2_with fail
    go_ret
    exact ⟨rfl, rfl⟩

set_option maxRecDepth 100000 in
set_option maxHeartbeats 1000000 in
theorem indexRune_err (w : World) :
    Calls Try.prog 27 #[.string ⟨#[45, 46, 95, 126, 43]⟩, .int .i32 65533] w fun e w' => e = .returned (.int .i64 (-1)) ∧ Below w.heap.size w w' := by
  have n0 : ∀ ty, (Instr.next (.pointer (some ⟨w.heap.size, 0, none⟩)) true ty).run Try.prog (w.iter ⟨#[45, 46, 95, 126, 43]⟩ 0) = .ok (.tuple #[.bool true, .int .i64 0, .int .i32 45]) (w.iter ⟨#[45, 46, 95, 126, 43]⟩ 1) := fun ty => run_next_ascii w _ 0 ty (by decide) (by decide)
  have n1 : ∀ ty, (Instr.next (.pointer (some ⟨w.heap.size, 0, none⟩)) true ty).run Try.prog (w.iter ⟨#[45, 46, 95, 126, 43]⟩ 1) = .ok (.tuple #[.bool true, .int .i64 1, .int .i32 46]) (w.iter ⟨#[45, 46, 95, 126, 43]⟩ 2) := fun ty => run_next_ascii w _ 1 ty (by decide) (by decide)
  have n2 : ∀ ty, (Instr.next (.pointer (some ⟨w.heap.size, 0, none⟩)) true ty).run Try.prog (w.iter ⟨#[45, 46, 95, 126, 43]⟩ 2) = .ok (.tuple #[.bool true, .int .i64 2, .int .i32 95]) (w.iter ⟨#[45, 46, 95, 126, 43]⟩ 3) := fun ty => run_next_ascii w _ 2 ty (by decide) (by decide)
  have n3 : ∀ ty, (Instr.next (.pointer (some ⟨w.heap.size, 0, none⟩)) true ty).run Try.prog (w.iter ⟨#[45, 46, 95, 126, 43]⟩ 3) = .ok (.tuple #[.bool true, .int .i64 3, .int .i32 126]) (w.iter ⟨#[45, 46, 95, 126, 43]⟩ 4) := fun ty => run_next_ascii w _ 3 ty (by decide) (by decide)
  have n4 : ∀ ty, (Instr.next (.pointer (some ⟨w.heap.size, 0, none⟩)) true ty).run Try.prog (w.iter ⟨#[45, 46, 95, 126, 43]⟩ 4) = .ok (.tuple #[.bool true, .int .i64 4, .int .i32 43]) (w.iter ⟨#[45, 46, 95, 126, 43]⟩ 5) := fun ty => run_next_ascii w _ 4 ty (by decide) (by decide)
  have n5 : ∀ ty, (Instr.next (.pointer (some ⟨w.heap.size, 0, none⟩)) true ty).run Try.prog (w.iter ⟨#[45, 46, 95, 126, 43]⟩ 5) = .ok (.tuple #[.bool false]) (w.iter ⟨#[45, 46, 95, 126, 43]⟩ 5) := fun ty => run_next_end w _ 5 ty (by decide)
  have gr : Hid (Below w.heap.size w (w.iter ⟨#[45, 46, 95, 126, 43]⟩ 5)) := (Below.refl _ w).alloc (Nat.le_refl _) _
  go_enter Try.func27, Try.ntmps27
  go_wp2_with fail
  refine wp_loop_rounds 6 ?_
  iterate 6
    rw [rounds_succ]
    go_wp2_with fail
  go_ret
  exact ⟨rfl, gr.out⟩

theorem idx_none : ∀ (l : List UInt8), (∀ x ∈ l, x.toNat < 128) → ∀ b : Int, 128 ≤ b ∧ b < 256 → Lib.indexByte l b.toNat.toUInt8 = -1
  | [], _, _, _ => rfl
  | x :: l, h, b, hb => by
    have ih := idx_none l (fun y hy => h y (List.mem_cons_of_mem _ hy)) b hb
    have hx := h x (List.mem_cons_self ..)
    have hne : (x == b.toNat.toUInt8) = false := by
      rw [beq_eq_false_iff_ne]
      rintro rfl
      have : (b.toNat.toUInt8).toNat = b.toNat % 256 := rfl
      rw [this, Nat.mod_eq_of_lt (by omega)] at hx
      omega
    unfold Lib.indexByte
    rw [hne, ih]
    rfl

set_option maxRecDepth 100000 in
set_option maxHeartbeats 1000000 in
theorem indexRune_wide2 (r : Int) (w : World) (hv : validRune r = true) (h1 : 128 ≤ r) (hne : r ≠ 65533) (hn : (Utf8.encode r).size = 2)
    (b : Int) (hb : 128 ≤ b ∧ b < 256) (hi : ∀ w, (Instr.index 9 (.string (Utf8.encode r)) (.int .i64 1)).run Try.prog w = .ok (.int .u8 b) w) :
    Calls Try.prog 27 #[.string ⟨#[45, 46, 95, 126, 43]⟩, .int .i32 r] w fun e w' => e = .returned (.int .i64 (-1)) ∧ Below w.heap.size w w' := by
  have hne : (r == 65533) = false := by rw [beq_eq_false_iff_ne]; exact hne
  have V : Hid (∀ w, Calls Try.prog 30 #[.int .i32 r] w fun e w' => e = .returned (.bool true) ∧ w = w') := fun w => by rw [← hv]; exact validRune_any r w
  clear hv
  have h1' : decide (r < 128) = false := by simp; omega
  have hs : ∀ w, (Instr.index 9 (.string ⟨#[45, 46, 95, 126, 43]⟩) (.int .i64 1)).run Try.prog w = .ok (.int .u8 46) w := fun w => by kernel_rfl
  have hbs : (46 == b) = false := by rw [beq_eq_false_iff_ne]; omega
  have hcut : ∀ w, (Instr.slice 9 (.string ⟨#[45, 46, 95, 126, 43]⟩) (some (.int .i64 2)) none none).run Try.prog w = .ok (.string ⟨#[95, 126, 43]⟩) w := fun w => by kernel_rfl
  have K : Hid (∀ w, Calls Try.prog 26 #[.string ⟨#[95, 126, 43]⟩, .int .u8 b] w fun e w' => e = .returned (.int .i64 (-1)) ∧ w = w') := fun w => by
    have h := indexByte26 ⟨#[95, 126, 43]⟩ b w
    rw [show (⟨#[95, 126, 43]⟩ : ByteArray).data.toList = [95, 126, 43] from rfl, idx_none _ (by decide) b hb] at h
    exact h
  clear hb
  go_enter Try.func27, Try.ntmps27
  go_wp2_with fail
  refine (V.out _).mono ?_
  rintro e w1 ⟨rfl, rfl⟩
  go_wp2_with fail
  go_step3
  go_wp2_with fail
  refine wp_loop_rounds 1 ?_
  rw [rounds_succ]
  go_wp2_with fail
  go_step3
  go_wp2_with fail
  go_quiet (fail)
  go_wp2_with fail
  go_quiet (exact ((K.out _).mono fun e w'' ⟨he, hw⟩ => ⟨he, _, hw.symm⟩))
  go_wp2_with fail
  rw [Exit.noGoto_ret]
  go_wp2_with fail
  rw [Exit.noGoto_ret]
  go_ret
  exact ⟨rfl, below_drewN (Below.refl _ _) _⟩

set_option maxRecDepth 100000 in
set_option maxHeartbeats 1000000 in
theorem indexRune_wide3 (r : Int) (w : World) (hv : validRune r = true) (h1 : 128 ≤ r) (hne : r ≠ 65533) (hn : (Utf8.encode r).size = 3)
    (b : Int) (hb : 128 ≤ b ∧ b < 256) (hi : ∀ w, (Instr.index 9 (.string (Utf8.encode r)) (.int .i64 2)).run Try.prog w = .ok (.int .u8 b) w) :
    Calls Try.prog 27 #[.string ⟨#[45, 46, 95, 126, 43]⟩, .int .i32 r] w fun e w' => e = .returned (.int .i64 (-1)) ∧ Below w.heap.size w w' := by
  have hne : (r == 65533) = false := by rw [beq_eq_false_iff_ne]; exact hne
  have V : Hid (∀ w, Calls Try.prog 30 #[.int .i32 r] w fun e w' => e = .returned (.bool true) ∧ w = w') := fun w => by rw [← hv]; exact validRune_any r w
  clear hv
  have h1' : decide (r < 128) = false := by simp; omega
  have hs : ∀ w, (Instr.index 9 (.string ⟨#[45, 46, 95, 126, 43]⟩) (.int .i64 2)).run Try.prog w = .ok (.int .u8 95) w := fun w => by kernel_rfl
  have hbs : (95 == b) = false := by rw [beq_eq_false_iff_ne]; omega
  have hcut : ∀ w, (Instr.slice 9 (.string ⟨#[45, 46, 95, 126, 43]⟩) (some (.int .i64 3)) none none).run Try.prog w = .ok (.string ⟨#[126, 43]⟩) w := fun w => by kernel_rfl
  have K : Hid (∀ w, Calls Try.prog 26 #[.string ⟨#[126, 43]⟩, .int .u8 b] w fun e w' => e = .returned (.int .i64 (-1)) ∧ w = w') := fun w => by
    have h := indexByte26 ⟨#[126, 43]⟩ b w
    rw [show (⟨#[126, 43]⟩ : ByteArray).data.toList = [126, 43] from rfl, idx_none _ (by decide) b hb] at h
    exact h
  clear hb
  go_enter Try.func27, Try.ntmps27
  go_wp2_with fail
  refine (V.out _).mono ?_
  rintro e w1 ⟨rfl, rfl⟩
  go_wp2_with fail
  go_step3
  go_wp2_with fail
  refine wp_loop_rounds 1 ?_
  rw [rounds_succ]
  go_wp2_with fail
  go_step3
  go_wp2_with fail
  go_quiet (fail)
  go_wp2_with fail
  go_quiet (exact ((K.out _).mono fun e w'' ⟨he, hw⟩ => ⟨he, _, hw.symm⟩))
  go_wp2_with fail
  rw [Exit.noGoto_ret]
  go_wp2_with fail
  rw [Exit.noGoto_ret]
  go_ret
  exact ⟨rfl, below_drewN (Below.refl _ _) _⟩

set_option maxRecDepth 100000 in
set_option maxHeartbeats 1000000 in
theorem indexRune_wide4 (r : Int) (w : World) (hv : validRune r = true) (h1 : 128 ≤ r) (hne : r ≠ 65533) (hn : (Utf8.encode r).size = 4)
    (b : Int) (hb : 128 ≤ b ∧ b < 256) (hi : ∀ w, (Instr.index 9 (.string (Utf8.encode r)) (.int .i64 3)).run Try.prog w = .ok (.int .u8 b) w) :
    Calls Try.prog 27 #[.string ⟨#[45, 46, 95, 126, 43]⟩, .int .i32 r] w fun e w' => e = .returned (.int .i64 (-1)) ∧ Below w.heap.size w w' := by
  have hne : (r == 65533) = false := by rw [beq_eq_false_iff_ne]; exact hne
  have V : Hid (∀ w, Calls Try.prog 30 #[.int .i32 r] w fun e w' => e = .returned (.bool true) ∧ w = w') := fun w => by rw [← hv]; exact validRune_any r w
  clear hv
  have h1' : decide (r < 128) = false := by simp; omega
  have hs : ∀ w, (Instr.index 9 (.string ⟨#[45, 46, 95, 126, 43]⟩) (.int .i64 3)).run Try.prog w = .ok (.int .u8 126) w := fun w => by kernel_rfl
  have hbs : (126 == b) = false := by rw [beq_eq_false_iff_ne]; omega
  have hcut : ∀ w, (Instr.slice 9 (.string ⟨#[45, 46, 95, 126, 43]⟩) (some (.int .i64 4)) none none).run Try.prog w = .ok (.string ⟨#[43]⟩) w := fun w => by kernel_rfl
  have K : Hid (∀ w, Calls Try.prog 26 #[.string ⟨#[43]⟩, .int .u8 b] w fun e w' => e = .returned (.int .i64 (-1)) ∧ w = w') := fun w => by
    have h := indexByte26 ⟨#[43]⟩ b w
    rw [show (⟨#[43]⟩ : ByteArray).data.toList = [43] from rfl, idx_none _ (by decide) b hb] at h
    exact h
  clear hb
  go_enter Try.func27, Try.ntmps27
  go_wp2_with fail
  refine (V.out _).mono ?_
  rintro e w1 ⟨rfl, rfl⟩
  go_wp2_with fail
  go_step3
  go_wp2_with fail
  refine wp_loop_rounds 1 ?_
  rw [rounds_succ]
  go_wp2_with fail
  go_step3
  go_wp2_with fail
  go_quiet (fail)
  go_wp2_with fail
  go_quiet (exact ((K.out _).mono fun e w'' ⟨he, hw⟩ => ⟨he, _, hw.symm⟩))
  go_wp2_with fail
  rw [Exit.noGoto_ret]
  go_wp2_with fail
  rw [Exit.noGoto_ret]
  go_ret
  exact ⟨rfl, below_drewN (Below.refl _ _) _⟩

def idxR (r : Int) : Int := if 0 ≤ r ∧ r < 128 then Lib.indexByte sep r.toNat.toUInt8 else -1

theorem indexRune (r : Int) (w : World) :
    Calls Try.prog 27 #[.string ⟨#[45, 46, 95, 126, 43]⟩, .int .i32 r] w fun e w' => e = .returned (.int .i64 (idxR r)) ∧ Below w.heap.size w w' := by
  unfold idxR
  by_cases h : 0 ≤ r ∧ r < 128
  · rw [if_pos h]
    exact (indexRune_ascii r w h.1 h.2).mono fun e w' ⟨he, hw⟩ => ⟨he, hw ▸ Below.refl _ _⟩
  · rw [if_neg h]
    cases hv : validRune r with
    | false => exact (indexRune_bad r w hv).mono fun e w' ⟨he, hw⟩ => ⟨he, hw ▸ Below.refl _ _⟩
    | true =>
      by_cases he : r = 65533
      · subst he
        exact indexRune_err w
      · have h1 : 128 ≤ r := by
          simp [validRune] at hv
          omega
        obtain ⟨e1, e2, e3⟩ := encode_facts r (by rw [validRune_eq]; exact hv) h1
        have e4 := e3 (by omega)
        have hb : 128 ≤ (((Utf8.encode r)[(Utf8.encode r).size - 1]'(by omega)).toNat : Int) ∧ (((Utf8.encode r)[(Utf8.encode r).size - 1]'(by omega)).toNat : Int) < 256 := by
          have := UInt8.toNat_lt ((Utf8.encode r)[(Utf8.encode r).size - 1]'(by omega))
          omega
        have hi : ∀ w, (Instr.index 9 (.string (Utf8.encode r)) (.int .i64 (((Utf8.encode r).size - 1 : Nat) : Int))).run Try.prog w = .ok (.int .u8 (((Utf8.encode r)[(Utf8.encode r).size - 1]'(by omega)).toNat : Int)) w := fun w => by
          rw [run_index_string _ 9 _ _ _ Try.underlying9, dif_pos ⟨by omega, by omega⟩]
          rfl
        generalize hb' : (((Utf8.encode r)[(Utf8.encode r).size - 1]'(by omega)).toNat : Int) = b at hb hi
        have : (Utf8.encode r).size = 2 ∨ (Utf8.encode r).size = 3 ∨ (Utf8.encode r).size = 4 := by omega
        rcases this with hn | hn | hn
        · rw [hn] at hi
          exact indexRune_wide2 r w hv h1 he hn b hb hi
        · rw [hn] at hi
          exact indexRune_wide3 r w hv h1 he hn b hb hi
        · rw [hn] at hi
          exact indexRune_wide4 r w hv h1 he hn b hb hi
end Go.Proofs.Qxb6000755a.fnPathRuneMatchesTable
