import Derived.Test.Qxb6609261aFmtW7
namespace Go.Proofs.Qxb6609261aFmt.fnMetres
open Go.RowKit

theorem text_last {a : Nat} {W F : List UInt8} (h : IsText a W F) : ∃ l c, W ++ F = l ++ [c] ∧ isDig c := by
  obtain ⟨hW, h1, h2, h3⟩ := h
  rcases h3 with ⟨rfl, hv⟩ | ⟨c, hc, rfl, hv⟩ | ⟨c, d, hc, hd, rfl, hv⟩
  · have hne : W ≠ [] := List.ne_nil_of_length_pos (by omega)
    exact ⟨W.dropLast, W.getLast hne, by rw [List.append_nil, List.dropLast_concat_getLast], hW _ (List.getLast_mem hne)⟩
  · exact ⟨W ++ [46], c, by simp, hc⟩
  · exact ⟨W ++ [46, c], d, by simp, hd⟩

theorem text_len {a : Nat} {W F : List UInt8} (h : IsText a W F) : 1 ≤ W.length ∧ W.length ≤ 20 ∧ F.length ≤ 3 := by
  obtain ⟨hW, h1, h2, h3⟩ := h
  refine ⟨h1, h2, ?_⟩
  rcases h3 with ⟨rfl, hv⟩ | ⟨c, hc, rfl, hv⟩ | ⟨c, d, hc, hd, rfl, hv⟩ <;> simp

theorem text_noBlank {a : Nat} {W F : List UInt8} (h : IsText a W F) (u : Bool) : ∀ c ∈ W ++ F ++ um u, c ≠ 32 ∧ c ≠ 9 := by
  have dig : ∀ c, isDig c → c ≠ 32 ∧ c ≠ 9 := by
    intro c hc
    refine ⟨?_, ?_⟩ <;> (rintro rfl; revert hc; unfold isDig; decide)
  have hdot : (46 : UInt8) ≠ 32 ∧ (46 : UInt8) ≠ 9 := by decide
  have hu : ∀ c ∈ um u, c ≠ 32 ∧ c ≠ 9 := by
    intro c hc
    cases u <;> simp [um] at hc
    subst hc; decide
  obtain ⟨hW, h1, h2, h3⟩ := h
  intro c hc
  rcases List.mem_append.1 hc with hc | hc
  · rcases List.mem_append.1 hc with hc | hc
    · exact dig c (hW c hc)
    · rcases h3 with ⟨rfl, hv⟩ | ⟨x, hx, rfl, hv⟩ | ⟨x, y, hx, hy, rfl, hv⟩
      · simp at hc
      · simp at hc; rcases hc with rfl | rfl
        · exact hdot
        · exact dig _ hx
      · simp at hc; rcases hc with rfl | rfl | rfl
        · exact hdot
        · exact dig _ hx
        · exact dig _ hy
  · exact hu c hc

theorem trim_text (pre : List UInt8) (hp : pre.length ≤ 1) {a : Nat} {W F : List UInt8} (h : IsText a W F) (u : Bool) (w : World) :
    Calls Tryf.prog 27 #[.string ⟨(pre ++ W ++ F ++ um u).toArray⟩, .string ⟨#[109]⟩] w fun e w' => e = .returned (.string ⟨(pre ++ (W ++ F)).toArray⟩) ∧ w = w' := by
  obtain ⟨l1, l2, l3⟩ := text_len h
  cases u
  · obtain ⟨l, c, e, hc⟩ := text_last h
    have e1 : pre ++ W ++ F ++ um false = (pre ++ l) ++ [c] := by
      rw [um, List.append_assoc pre, List.append_assoc, e]; simp
    have e2 : pre ++ (W ++ F) = (pre ++ l) ++ [c] := by rw [e]; simp
    have hlen : l.length + 1 = W.length + F.length := by
      have := congrArg List.length e; simp at this; omega
    rw [e1, e2]
    refine trim_no (pre ++ l) c w (by simp; omega) ?_
    rw [beq_eq_false_iff_ne]
    rintro rfl
    revert hc; unfold isDig; decide
  · have e1 : pre ++ W ++ F ++ um true = (pre ++ (W ++ F)) ++ [109] := by simp [um]
    rw [e1]
    exact trim_yes _ w (by simp; omega)

/-- The text of n centimetres. -/
def IsWritten (n : Int) (u : Bool) (t : List UInt8) : Prop :=
  (∃ a W F, n = (a : Nat) ∧ t = W ++ F ++ um u ∧ IsText a W F) ∨ (∃ a W F, n = -((a : Nat) : Int) ∧ 1 ≤ a ∧ t = 45 :: (W ++ F ++ um u) ∧ IsText a W F)

theorem metresText_any (n : Int) (u : Bool) (w : World) (h1 : -9223372036854775807 ≤ n) (h2 : n ≤ 9223372036854775807) :
    Calls Tryf.prog 6 #[.int .i64 n, .bool u] w fun e w' => ∃ t, e = .returned (.string ⟨t.toArray⟩) ∧ IsWritten n u t ∧ Below w.heap.size w w' := by
  by_cases h : 0 ≤ n
  · obtain ⟨a, rfl⟩ := Int.eq_ofNat_of_zero_le h
    refine (text_pos a u (by omega) w).mono fun e w' ⟨W, F, he, ht, hb⟩ => ⟨_, he, Or.inl ⟨a, W, F, rfl, by simp, ht⟩, hb⟩
  · obtain ⟨a, ha⟩ := Int.eq_ofNat_of_zero_le (show 0 ≤ -n by omega)
    obtain rfl : n = -(a : Int) := by omega
    refine (text_neg a u (by omega) (by omega) w).mono fun e w' ⟨W, F, he, ht, hb⟩ => ⟨_, he, Or.inr ⟨a, W, F, rfl, by omega, by simp, ht⟩, hb⟩

theorem written_len {n : Int} {u : Bool} {t : List UInt8} (h : IsWritten n u t) : 1 ≤ t.length ∧ t.length ≤ 25 := by
  have hu : (um u).length ≤ 1 := by cases u <;> simp [um]
  rcases h with ⟨a, W, F, rfl, rfl, ht⟩ | ⟨a, W, F, rfl, ha, rfl, ht⟩
  all_goals
    obtain ⟨l1, l2, l3⟩ := text_len ht
    simp
    omega

theorem number_any (b : Nat) (fld : ByteArray) (n mn mx : Int) (u : Bool) (t : List UInt8) (w : World) (hw : IsWritten n u t)
    (hc : w.cell? ⟨b, 0, none⟩ = some (.string ⟨(32 :: (t ++ 9 :: [110, 101, 120, 116])).toArray⟩)) (hf : w.frozen? ⟨b, 0, none⟩ = false) (hb : b < w.heap.size)
    (h1 : -9223372036854775807 ≤ n) (h2 : n ≤ 9223372036854775807) (hmn : mn ≤ n) (hmx : n ≤ mx) :
    Calls Tryf.prog 20 #[.pointer (some ⟨b, 0, none⟩), .string fld, .int .i64 2, .string ⟨#[109]⟩, .int .i64 mn, .int .i64 mx] w fun e w' =>
      e = .returned (.tuple #[.int .i64 n, .nilIface]) ∧ w'.cell? ⟨b, 0, none⟩ = some (.string ⟨[9, 110, 101, 120, 116].toArray⟩) ∧ Below b w w' := by
  obtain ⟨k1, k2⟩ := written_len hw
  rcases hw with ⟨a, W, F, rfl, rfl, ht⟩ | ⟨a, W, F, rfl, ha, rfl, ht⟩
  · obtain ⟨l1, l2, l3⟩ := text_len ht
    refine number_pos b fld a mn mx (W ++ F ++ um u) (W ++ F) w hc hf hb (text_noBlank ht u) k1 (by omega) (fun w => ?_) (fun w => parse_any a W F ht (by omega) w) (by simp; omega) ?_ h2 hmn hmx
    · have := trim_text [] (by simp) ht u w
      simpa using this
    · have hW := ht.1
      have e : (⟨(W ++ F).toArray⟩ : ByteArray)[0]'(by simp [ByteArray.size]; omega) = (W ++ F)[0]'(by simp; omega) := rfl
      rw [e, List.getElem_append_left (by omega)]
      exact (hW _ (List.getElem_mem _)).1
  · obtain ⟨l1, l2, l3⟩ := text_len ht
    refine number_neg b fld a mn mx (45 :: (W ++ F ++ um u)) (W ++ F) w hc hf hb ?_ k1 (by omega) (by simp; omega) (fun w => ?_) (fun w => parse_any a W F ht (by omega) w) (by omega) (by omega) hmn hmx
    · intro c hc
      rcases List.mem_cons.1 hc with rfl | hc
      · decide
      · exact text_noBlank ht u c hc
    · have := trim_text [45] (by simp) ht u w
      simpa using this

theorem assert_nil (w : World) : (Instr.typeAssert .nilIface 44 57 true).run Tryf.prog w = .ok (.tuple #[.pointer none, .bool false]) w := by kernel_rfl

theorem errField_nil (w : World) : Calls Tryf.prog 17 #[.nilIface] w fun e w' => e = .returned (.string ⟨#[]⟩) ∧ w' = w := by
  have ha := assert_nil
  go_enter Tryf.func17, Tryf.ntmps17
  go_wp2
  go_ret
  exact ⟨rfl, rfl⟩

theorem metres_any (b : Nat) (fld : ByteArray) (n mn mx : Int) (u : Bool) (t : List UInt8) (w : World) (hw : IsWritten n u t)
    (hc : w.cell? ⟨b, 0, none⟩ = some (.string ⟨(32 :: (t ++ 9 :: [110, 101, 120, 116])).toArray⟩)) (hf : w.frozen? ⟨b, 0, none⟩ = false) (hb : b < w.heap.size)
    (h1 : -9223372036854775807 ≤ n) (h2 : n ≤ 9223372036854775807) (hmn : mn ≤ n) (hmx : n ≤ mx) :
    Calls Tryf.prog 8 #[.pointer (some ⟨b, 0, none⟩), .string fld, .int .i64 mn, .int .i64 mx] w fun e w' =>
      e = .returned (.tuple #[.int .i64 n, .bool false, .string ⟨#[]⟩]) ∧ w'.cell? ⟨b, 0, none⟩ = some (.string ⟨[9, 110, 101, 120, 116].toArray⟩) ∧ Below b w w' := by
  have h16 : Calls Tryf.prog 16 #[.pointer (some ⟨b, 0, none⟩), .string fld, .int .i64 mn, .int .i64 mx] w fun e w' =>
      e = .returned (.tuple #[.int .i64 n, .nilIface]) ∧ w'.cell? ⟨b, 0, none⟩ = some (.string ⟨[9, 110, 101, 120, 116].toArray⟩) ∧ Below b w w' := by
    go_enter Tryf.func16, Tryf.ntmps16
    go_wp2_with fail
    refine (number_any b fld n mn mx u t _ hw hc hf hb h1 h2 hmn hmx).mono ?_
    rintro e w1 ⟨rfl, hc1, hb1⟩
    go_wp2_with fail
    go_ret2
    exact ⟨rfl, hc1, hb1⟩
  have hnn := neq_nil
  go_enter Tryf.func8, Tryf.ntmps8
  go_wp2_with fail
  refine h16.mono ?_
  rintro e w1 ⟨rfl, hc1, hb1⟩
  go_wp2_with fail
  go_quiet ((go_at_call 17; exact Calls.quiet_of_same (errField_nil _)))
  go_wp2_with fail
  go_ret3
  exact ⟨rfl, hc1, below_drewN hb1 _⟩

theorem newParser (T : ByteArray) (w : World) : Calls Tryf.prog 7 #[.string T, .slice none 0 0] w fun e w' =>
    e = .returned (.pointer (some ⟨w.heap.size, 0, none⟩)) ∧ w' = w.alloc (.cells #[.string T, .slice none 0 0] 42) := by
  go_enter Tryf.func7, Tryf.ntmps7
  go_wp2
  go_ret
  exact ⟨rfl, rfl⟩

theorem parserText (b : Nat) (T : ByteArray) (w : World) (hc : w.cell? ⟨b, 0, none⟩ = some (.string T)) : Calls Tryf.prog 9 #[.pointer (some ⟨b, 0, none⟩)] w fun e w' =>
    e = .returned (.string T) ∧ w = w' := by
  go_enter Tryf.func9, Tryf.ntmps9
  go_wp2
  go_ret
  exact ⟨rfl, rfl⟩

set_option maxHeartbeats 1000000 in
theorem top_in (n mn mx : Int) (u : Bool) (fld : ByteArray) (w : World) (h1 : -9223372036854775807 ≤ n) (h2 : n ≤ 9223372036854775807) (hs : fld.size ≤ 65536) (hmn : mn ≤ n) (hmx : n ≤ mx) :
    Calls Tryf.prog 3 #[.int .i64 n, .int .i64 mn, .int .i64 mx, .bool u, .string fld] w fun e w' => e = .returned (.bool true) ∧ Below w.heap.size w w' := by
  have c5 : decide (fld.size ≤ 1048576) = true := by simp; omega
  have q0 : (n == -9223372036854775808) = false := by rw [beq_eq_false_iff_ne]; omega
  have q1 : ¬ n < mn := by omega
  have q2 : ¬ mx < n := by omega
  have q3 : ¬ (65536 : Int) < (fld.size : Int) := by omega
  have b5 := fun w => bytes_any n mn mx u fld (by unfold maxLen; omega) w
  rw [c5] at b5
  have B5 : Hid (∀ w, Calls Tryf.prog 5 #[.int .i64 n, .int .i64 mn, .int .i64 mx, .bool u, .string fld] w fun e w' => e = .returned (.bool true) ∧ w' = w) := b5
  clear b5 c5
  go_enter Tryf.func3, Tryf.ntmps3
  go_wp2_with fail
  refine (B5.out _).mono ?_
  rintro e w0 ⟨rfl, hw0⟩
  obtain rfl := hw0.symm
  go_wp2_with fail
  refine (metresText_any n u _ h1 h2).mono ?_
  rintro e w1 ⟨t, rfl, hw, hb1⟩
  obtain ⟨k1, k2⟩ := written_len hw
  go_wp2_with fail
  have ecat : ((⟨#[32]⟩ : ByteArray) ++ ⟨t.toArray⟩ ++ ⟨#[9, 110, 101, 120, 116]⟩) = ⟨(32 :: (t ++ 9 :: [110, 101, 120, 116])).toArray⟩ := by
    have : ((⟨#[32]⟩ : ByteArray) ++ ⟨t.toArray⟩ ++ ⟨#[9, 110, 101, 120, 116]⟩).data = (32 :: (t ++ 9 :: [110, 101, 120, 116])).toArray := by simp [ByteArray.data_append]
    cases hx : ((⟨#[32]⟩ : ByteArray) ++ ⟨t.toArray⟩ ++ ⟨#[9, 110, 101, 120, 116]⟩) with
    | mk d => rw [hx] at this; simp at this; rw [this]
  rw [ecat]
  clear ecat
  refine (newParser _ _).mono ?_
  rintro e w2 ⟨rfl, hw2⟩
  have f1 : w2.cell? ⟨w1.heap.size, 0, none⟩ = some (.string ⟨(32 :: (t ++ 9 :: [110, 101, 120, 116])).toArray⟩) := by rw [hw2]; simp
  have f2 : w2.frozen? ⟨w1.heap.size, 0, none⟩ = false := by rw [hw2]; simp
  have f3 : w1.heap.size < w2.heap.size := by rw [hw2]; simp
  have f4 : Below w1.heap.size w1 w2 := by rw [hw2]; exact (Below.refl _ _).alloc (Nat.le_refl _) _
  clear hw2
  generalize hb : w1.heap.size = b at *
  go_wp2_with fail
  refine (metres_any b fld n mn mx u t _ hw f1 f2 f3 h1 h2 hmn hmx).mono ?_
  rintro e w3 ⟨rfl, f5, f6⟩
  clear f1 f2
  have nn : (n == n) = true := by simp
  go_wp2_with fail
  refine (parserText b _ _ f5).mono ?_
  rintro e w4 ⟨rfl, rfl⟩
  go_wp2_with fail
  go_ret
  have hbs := hb1.size
  exact ⟨rfl, hb1.trans ((f4.mono (by omega)).trans (f6.mono (by omega)))⟩

set_option maxHeartbeats 1000000 in
theorem top_out (n mn mx : Int) (u : Bool) (fld : ByteArray) (w : World) (hs : fld.size ≤ maxLen) (hbig : fld.size ≤ 65536) (h : n = -9223372036854775808 ∨ n < mn ∨ mx < n) :
    Calls Tryf.prog 3 #[.int .i64 n, .int .i64 mn, .int .i64 mx, .bool u, .string fld] w fun e w' => e = .returned (.bool true) ∧ Below w.heap.size w w' := by
  by_cases hmin : n = -9223372036854775808
  · have q0 : (n == -9223372036854775808) = true := by rw [hmin]; decide
    clear h hmin
    have b5 := fun w => bytes_any n mn mx u fld hs w
    rw [show decide (fld.size ≤ 1048576) = true by simp; omega] at b5
    have B5 : Hid (∀ w, Calls Tryf.prog 5 #[.int .i64 n, .int .i64 mn, .int .i64 mx, .bool u, .string fld] w fun e w' => e = .returned (.bool true) ∧ w' = w) := b5
    clear b5
    have q3 : ¬ (65536 : Int) < (fld.size : Int) := by omega
    go_enter Tryf.func3, Tryf.ntmps3
    go_wp2_with fail
    refine (B5.out _).mono ?_
    rintro e w0 ⟨rfl, hw0⟩
    obtain rfl := hw0.symm
    go_wp2_with fail
    go_ret
    exact ⟨rfl, Below.refl _ _⟩
  · have q0 : (n == -9223372036854775808) = false := by rw [beq_eq_false_iff_ne]; exact hmin
    by_cases hmn : n < mn
    · clear h hmin
      have b5 := fun w => bytes_any n mn mx u fld hs w
      rw [show decide (fld.size ≤ 1048576) = true by simp; omega] at b5
      have B5 : Hid (∀ w, Calls Tryf.prog 5 #[.int .i64 n, .int .i64 mn, .int .i64 mx, .bool u, .string fld] w fun e w' => e = .returned (.bool true) ∧ w' = w) := b5
      clear b5
      have q3 : ¬ (65536 : Int) < (fld.size : Int) := by omega
      go_enter Tryf.func3, Tryf.ntmps3
      go_wp2_with fail
      refine (B5.out _).mono ?_
      rintro e w0 ⟨rfl, hw0⟩
      obtain rfl := hw0.symm
      go_wp2_with fail
      go_ret
      exact ⟨rfl, Below.refl _ _⟩

    · have q1 : decide (n < mn) = false := by simpa using hmn
      have q2 : mx < n := by omega
      clear h hmin hmn
      have b5 := fun w => bytes_any n mn mx u fld hs w
      rw [show decide (fld.size ≤ 1048576) = true by simp; omega] at b5
      have B5 : Hid (∀ w, Calls Tryf.prog 5 #[.int .i64 n, .int .i64 mn, .int .i64 mx, .bool u, .string fld] w fun e w' => e = .returned (.bool true) ∧ w' = w) := b5
      clear b5
      have q3 : ¬ (65536 : Int) < (fld.size : Int) := by omega
      go_enter Tryf.func3, Tryf.ntmps3
      go_wp2_with fail
      refine (B5.out _).mono ?_
      rintro e w0 ⟨rfl, hw0⟩
      obtain rfl := hw0.symm
      go_wp2_with fail
      go_ret
      exact ⟨rfl, Below.refl _ _⟩

set_option maxHeartbeats 1000000 in
theorem top_long (n mn mx : Int) (u : Bool) (fld : ByteArray) (w : World) (hs : fld.size ≤ maxLen) (hbig : ¬ fld.size ≤ 65536) :
    Calls Tryf.prog 3 #[.int .i64 n, .int .i64 mn, .int .i64 mx, .bool u, .string fld] w fun e w' => e = .returned (.bool true) ∧ Below w.heap.size w w' := by
  have q3 : (65536 : Int) < (fld.size : Int) := by omega
  have b5 := fun w => bytes_any n mn mx u fld hs w
  generalize decide (fld.size ≤ 1048576) = d at b5
  have B5 : Hid (∀ w, Calls Tryf.prog 5 #[.int .i64 n, .int .i64 mn, .int .i64 mx, .bool u, .string fld] w fun e w' => e = .returned (.bool d) ∧ w' = w) := b5
  clear b5
  cases d
  all_goals
    go_enter Tryf.func3, Tryf.ntmps3
    go_wp2_with fail
    refine (B5.out _).mono ?_
    rintro e w0 ⟨rfl, hw0⟩
    obtain rfl := hw0.symm
    go_wp2_with fail
    go_ret
    exact ⟨rfl, Below.refl _ _⟩

theorem top_any (n mn mx : Int) (u : Bool) (fld : ByteArray) (w : World) (h1 : -9223372036854775808 ≤ n) (h2 : n ≤ 9223372036854775807) (hs : fld.size ≤ maxLen) :
    Calls Tryf.prog 3 #[.int .i64 n, .int .i64 mn, .int .i64 mx, .bool u, .string fld] w fun e w' => e = .returned (.bool true) ∧ Below w.heap.size w w' := by
  by_cases hbig : fld.size ≤ 65536
  · by_cases h : n = -9223372036854775808 ∨ n < mn ∨ mx < n
    · exact top_out n mn mx u fld w hs hbig h
    · exact top_in n mn mx u fld w (by omega) h2 hbig (by omega) (by omega)
  · exact top_long n mn mx u fld w hs hbig
end Go.Proofs.Qxb6609261aFmt.fnMetres
