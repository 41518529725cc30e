import Derived.Test.Qxb6609261aFmtW3
namespace Go.Proofs.Qxb6609261aFmt.fnMetres
open Go.RowKit

theorem val_snoc (l : List UInt8) (c : UInt8) : val (l ++ [c]) = val l * 10 + (c.toNat - 48) := by
  rw [val_append]; simp [val]

theorem val_take_le (D : List UInt8) (k : Nat) : val (D.take k) ≤ val D := by
  have h : val D = val (D.take k) * 10 ^ (D.drop k).length + val (D.drop k) := by
    rw [← val_append, List.take_append_drop]
  have h2 : val (D.take k) * 1 ≤ val (D.take k) * 10 ^ (D.drop k).length := Nat.mul_le_mul_left _ (Nat.pow_pos (by decide))
  omega

theorem val_take_succ (D : List UInt8) (k : Nat) (h : k < D.length) : val (D.take (k + 1)) = val (D.take k) * 10 + (D[k].toNat - 48) := by
  rw [List.take_succ_eq_append_getElem h, val_snoc]

/-- The digits that parseDecimal reads: those of the whole part, those of the fraction, then zeros. -/
def digs (W R : List UInt8) : List UInt8 := W ++ R ++ List.replicate (2 - R.length) 48

theorem digs_length (W R : List UInt8) (h : R.length ≤ 2) : (digs W R).length = W.length + 2 := by
  unfold digs; simp; omega

theorem digs_step (W R : List UInt8) (k : Nat) (hk : k < W.length + 2) (hW : ∀ c ∈ W, isDig c) (hR : ∀ c ∈ R, isDig c) (h2 : R.length ≤ 2) (hv : val (digs W R) ≤ 9223372036854775807) :
    ∃ d : Nat, 48 ≤ d ∧ d ≤ 57 ∧ val ((digs W R).take (k + 1)) = val ((digs W R).take k) * 10 + (d - 48) ∧ val ((digs W R).take k) * 10 + (d - 48) ≤ 9223372036854775807 ∧
      ((h : k < (⟨W.toArray⟩ : ByteArray).size) → (⟨W.toArray⟩ : ByteArray)[k].toNat = d) ∧ (W.length ≤ k → (h : k - W.length < (⟨R.toArray⟩ : ByteArray).size) → (⟨R.toArray⟩ : ByteArray)[k - W.length].toNat = d) ∧ (W.length + R.length ≤ k → d = 48) := by
  have hl : k < (digs W R).length := by rw [digs_length W R h2]; exact hk
  have hs := val_take_succ (digs W R) k hl
  have hle := val_take_le (digs W R) (k + 1)
  have hmem : isDig (digs W R)[k] := by
    have : (digs W R)[k] ∈ digs W R := List.getElem_mem hl
    generalize (digs W R)[k] = c at *
    unfold digs at this
    simp only [List.mem_append, List.mem_replicate] at this
    rcases this with (h | h) | h
    · exact hW _ h
    · exact hR _ h
    · rw [h.2]; exact ⟨by decide, by decide⟩
  have g1 : (h : k < W.length) → (digs W R)[k] = W[k] := fun h => by
    simp only [digs]
    rw [List.getElem_append_left (by simp; omega), List.getElem_append_left h]
  have g2 : W.length ≤ k → (h : k - W.length < R.length) → (digs W R)[k] = R[k - W.length] := fun h' h => by
    simp only [digs]
    rw [List.getElem_append_left (by simp; omega), List.getElem_append_right h']
  have g3 : W.length + R.length ≤ k → (digs W R)[k] = 48 := fun h => by
    simp only [digs]
    rw [List.getElem_append_right (by simp; omega)]
    simp
  refine ⟨(digs W R)[k].toNat, hmem.1, hmem.2, hs, by omega, fun h => ?_, fun h' h => ?_, fun h => ?_⟩
  · have h' : k < W.length := h
    rw [g1 h']
    rfl
  · have h'' : k - W.length < R.length := h
    rw [g2 h' h'']
    rfl
  · rw [g3 h]
    rfl

set_option maxHeartbeats 1000000 in
theorem parse_core (L W R : List UInt8) (pt : Bool) (w : World)
    (hcut : ∀ w, Calls Tryf.prog 34 #[.string ⟨L.toArray⟩, .string ⟨#[46]⟩] w fun e w' => e = .returned (.tuple #[.string ⟨W.toArray⟩, .string ⟨R.toArray⟩, .bool pt]) ∧ Below w.heap.size w w')
    (hW : ∀ c ∈ W, isDig c) (hW1 : 1 ≤ W.length) (hW2 : W.length ≤ 20) (hR : ∀ c ∈ R, isDig c) (hR2 : R.length ≤ 2) (hpt : pt = true → 1 ≤ R.length)
    (hv : val (digs W R) ≤ 9223372036854775807) :
    Calls Tryf.prog 28 #[.string ⟨L.toArray⟩, .int .i64 2] w fun e w' => e = .returned (.tuple #[.int .i64 (val (digs W R) : Int), .nilIface]) ∧ Below w.heap.size w w' := by
  have HC : Hid (∀ w, Calls Tryf.prog 34 #[.string ⟨L.toArray⟩, .string ⟨#[46]⟩] w fun e w' => e = .returned (.tuple #[.string ⟨W.toArray⟩, .string ⟨R.toArray⟩, .bool pt]) ∧ Below w.heap.size w w') := hcut
  clear hcut
  have hlR : (R.length : Int) ≤ 2 := by omega
  have hlD := digs_length W R hR2
  have H0 : Hid (val (digs W R) ≤ 9223372036854775807) := hv
  clear hv
  cases pt
  · clear hpt
    go_enter Tryf.func28, Tryf.ntmps28
    go_wp2_with fail
    refine (HC.out _).mono ?_
    rintro e w1 ⟨rfl, hb1⟩
    go_wp2_with fail
    refine (isDigits_yes W _ hW1 (by omega) hW).mono ?_
    rintro e w2 ⟨rfl, hb2⟩
    go_wp2_with fail
    go_loop [9, 57] (fun n i => ∃ k : Nat, k ≤ W.length + 2 ∧ i = .int .i64 k ∧ n = .int .i64 (val ((digs W R).take k) : Int)) (fun _ i => W.length + 2 - (intOf i).toNat)
    case atStart => exact ⟨0, Nat.zero_le _, rfl, by simp [val]⟩
    case round =>
      obtain ⟨k, hk, rfl, rfl⟩ := hrel
      by_cases hlt : k < W.length + 2
      · obtain ⟨d, hd1, hd2, hs, hb, c1, c2, c3⟩ := digs_step W R k hlt hW hR hR2 H0.out
        have HS : Hid (val ((digs W R).take (k + 1)) = val ((digs W R).take k) * 10 + (d - 48)) := hs
        clear hs hlD hW hR
        generalize hv : val ((digs W R).take k) = v at *
        clear hv
        by_cases k1 : k < W.length
        · have c1' := c1 k1
          clear c1 c2 c3
          go_wp2
          go_round
          case rel => exact ⟨k + 1, by omega, by go_num, by rw [HS.out]; go_num⟩
          case measure => simp [intOf]; omega
        · clear c1
          by_cases k2 : k < W.length + R.length
          · have c2' := c2 (by omega) (show k - W.length < R.length by omega)
            clear c2 c3
            go_wp2
            go_round
            case rel => exact ⟨k + 1, by omega, by go_num, by rw [HS.out]; go_num⟩
            case measure => simp [intOf]; omega
          · have c3' := c3 (by omega)
            clear c2 c3
            subst c3'
            go_wp2
            go_round
            case rel => exact ⟨k + 1, by omega, by go_num, by rw [HS.out]; go_num⟩
            case measure => simp [intOf]; omega
      · obtain rfl : k = W.length + 2 := by omega
        rw [List.take_of_length_le (by omega)]
        have hv := H0.out
        generalize hgv : val (digs W R) = v at hv ⊢
        have HG : Hid (val (digs W R) = v) := hgv
        clear hgv
        go_wp2
        go_ret2
        exact ⟨by rw [HG.out]; rfl, hb1.trans (hb2.mono hb1.size)⟩
  · have hR1 := hpt rfl
    clear hpt
    go_enter Tryf.func28, Tryf.ntmps28
    go_wp2_with fail
    refine (HC.out _).mono ?_
    rintro e w1 ⟨rfl, hb1⟩
    go_wp2_with fail
    refine (isDigits_yes W _ hW1 (by omega) hW).mono ?_
    rintro e w2 ⟨rfl, hb2⟩
    go_wp2_with fail
    refine (isDigits_yes R _ hR1 (by omega) hR).mono ?_
    rintro e w3 ⟨rfl, hb3⟩
    go_wp2_with fail
    go_loop [9, 57] (fun n i => ∃ k : Nat, k ≤ W.length + 2 ∧ i = .int .i64 k ∧ n = .int .i64 (val ((digs W R).take k) : Int)) (fun _ i => W.length + 2 - (intOf i).toNat)
    case atStart => exact ⟨0, Nat.zero_le _, rfl, by simp [val]⟩
    case round =>
      obtain ⟨k, hk, rfl, rfl⟩ := hrel
      by_cases hlt : k < W.length + 2
      · obtain ⟨d, hd1, hd2, hs, hb, c1, c2, c3⟩ := digs_step W R k hlt hW hR hR2 H0.out
        have HS : Hid (val ((digs W R).take (k + 1)) = val ((digs W R).take k) * 10 + (d - 48)) := hs
        clear hs hlD hW hR
        generalize hv : val ((digs W R).take k) = v at *
        clear hv
        by_cases k1 : k < W.length
        · have c1' := c1 k1
          clear c1 c2 c3
          go_wp2
          go_round
          case rel => exact ⟨k + 1, by omega, by go_num, by rw [HS.out]; go_num⟩
          case measure => simp [intOf]; omega
        · clear c1
          by_cases k2 : k < W.length + R.length
          · have c2' := c2 (by omega) (show k - W.length < R.length by omega)
            clear c2 c3
            go_wp2
            go_round
            case rel => exact ⟨k + 1, by omega, by go_num, by rw [HS.out]; go_num⟩
            case measure => simp [intOf]; omega
          · have c3' := c3 (by omega)
            clear c2 c3
            subst c3'
            go_wp2
            go_round
            case rel => exact ⟨k + 1, by omega, by go_num, by rw [HS.out]; go_num⟩
            case measure => simp [intOf]; omega
      · obtain rfl : k = W.length + 2 := by omega
        rw [List.take_of_length_le (by omega)]
        have hv := H0.out
        generalize hgv : val (digs W R) = v at hv ⊢
        have HG : Hid (val (digs W R) = v) := hgv
        clear hgv
        go_wp2
        go_ret2
        exact ⟨by rw [HG.out]; rfl, hb1.trans ((hb2.mono hb1.size).trans (hb3.mono (Nat.le_trans hb1.size hb2.size)))⟩

theorem val_digs (W R : List UInt8) : val (digs W R) = (val W * 10 ^ R.length + val R) * 10 ^ (2 - R.length) := by
  have hz : ∀ n, val (List.replicate n (48 : UInt8)) = 0 := by
    intro n
    induction n with
    | zero => rfl
    | succ n ih => rw [List.replicate_succ, val_cons, ih]; simp
  unfold digs
  rw [val_append, val_append, hz]
  simp

theorem dot_notin (W : List UInt8) (h : ∀ c ∈ W, isDig c) : (46 : UInt8) ∉ W := fun hm => by
  have := (h 46 hm).1
  revert this
  decide

theorem parse_any (a : Nat) (W F : List UInt8) (h : IsText a W F) (ha : a ≤ 9223372036854775807) (w : World) :
    Calls Tryf.prog 28 #[.string ⟨(W ++ F).toArray⟩, .int .i64 2] w fun e w' => e = .returned (.tuple #[.int .i64 (a : Int), .nilIface]) ∧ Below w.heap.size w w' := by
  obtain ⟨hW, h1, h2, h3⟩ := h
  have hn := dot_notin W hW
  rcases h3 with ⟨rfl, hv⟩ | ⟨c, hc, rfl, hv⟩ | ⟨c, d, hc, hd, rfl, hv⟩
  · have e : val (digs W []) = a := by rw [val_digs]; simp [val] at hv ⊢; exact hv
    have := parse_core W W [] false w (fun w => (cut_none W w hn).mono fun e w' ⟨he, hw⟩ => ⟨he, by rw [hw]; exact Below.refl _ _⟩) hW h1 h2 (by simp) (by simp) (by simp) (by rw [e]; exact ha)
    rw [e] at this
    simpa using this
  · have e : val (digs W [c]) = a := by rw [val_digs]; simp [val] at hv ⊢; omega
    have := parse_core (W ++ 46 :: [c]) W [c] true w (fun w => cut_some W [c] w hn h1 (by simp; omega)) hW h1 h2 (by simpa using hc) (by simp) (by simp) (by rw [e]; exact ha)
    rw [e] at this
    exact this
  · have e : val (digs W [c, d]) = a := by rw [val_digs]; simp [val] at hv ⊢; omega
    have := parse_core (W ++ 46 :: [c, d]) W [c, d] true w (fun w => cut_some W [c, d] w hn h1 (by simp; omega)) hW h1 h2 (by intro x hx; simp at hx; rcases hx with rfl | rfl <;> assumption) (by simp) (by simp) (by rw [e]; exact ha)
    rw [e] at this
    exact this
end Go.Proofs.Qxb6609261aFmt.fnMetres
