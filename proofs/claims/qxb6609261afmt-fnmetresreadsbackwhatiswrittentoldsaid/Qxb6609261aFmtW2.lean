import Derived.Test.Qxb6609261aFmtW1
namespace Go.Proofs.Qxb6609261aFmt.fnMetres
open Go.RowKit

theorem ret_str {a b : ByteArray} (h : a.data = b.data) : Ending.returned (.string a) = .returned (.string b) := by
  cases a; cases b; simp at h; rw [h]

def um (u : Bool) : List UInt8 := if u then [109] else []

/-- What the text of a length of a centimetres is: whole metres, then nothing, or a point and one or two decimals. -/
def IsText (a : Nat) (W F : List UInt8) : Prop :=
  (∀ c ∈ W, isDig c) ∧ 1 ≤ W.length ∧ W.length ≤ 20 ∧
  ((F = [] ∧ val W * 100 = a) ∨ (∃ c, isDig c ∧ F = [46, c] ∧ val W * 100 + (c.toNat - 48) * 10 = a) ∨
   (∃ c d, isDig c ∧ isDig d ∧ F = [46, c, d] ∧ val W * 100 + (c.toNat - 48) * 10 + (d.toNat - 48) = a))

theorem one_digit {m : Nat} {l : List UInt8} (h : IsNum m l) (hm : m < 10) : ∃ c, l = [c] ∧ isDig c ∧ c.toNat - 48 = m := by
  obtain ⟨h1, h2, h3, h4, h5⟩ := h
  have hl := h4 hm
  match l, hl with
  | [c], _ => exact ⟨c, rfl, h5 c (by simp), by simpa [val] using h1⟩

theorem text0 {a : Nat} {l : List UInt8} (h : IsNum ((a : Int) / 100).toNat l) (hc : a % 100 = 0) : IsText a l [] := by
  obtain ⟨h1, h2, h3, h4, h5⟩ := h
  exact ⟨h5, h2, h3, Or.inl ⟨rfl, by omega⟩⟩

theorem text1 {a : Nat} {l l2 : List UInt8} (h : IsNum ((a : Int) / 100).toNat l) (h' : IsNum ((a : Int) % 100 / 10).toNat l2) (hd : a % 10 = 0) : IsText a l (46 :: l2) := by
  obtain ⟨c, rfl, hc, hv⟩ := one_digit h' (by omega)
  obtain ⟨h1, h2, h3, h4, h5⟩ := h
  exact ⟨h5, h2, h3, Or.inr (Or.inl ⟨c, hc, rfl, by omega⟩)⟩

theorem text2 {a : Nat} {l l2 l3 : List UInt8} (h : IsNum ((a : Int) / 100).toNat l) (h' : IsNum ((a : Int) % 100 / 10).toNat l2) (h'' : IsNum ((a : Int) % 10).toNat l3) : IsText a l (46 :: l2 ++ l3) := by
  obtain ⟨c, rfl, hc, hv⟩ := one_digit h' (by omega)
  obtain ⟨d, rfl, hd, hv'⟩ := one_digit h'' (by omega)
  obtain ⟨h1, h2, h3, h4, h5⟩ := h
  exact ⟨h5, h2, h3, Or.inr (Or.inr ⟨c, d, hc, hd, rfl, by omega⟩)⟩

set_option maxHeartbeats 1000000 in
theorem text_pos (a : Nat) (u : Bool)  (ha : a ≤ 9223372036854775807) (w : World) :
    Calls Tryf.prog 6 #[.int .i64 (a : Int), .bool u] w fun e w' => ∃ W F : List UInt8, e = .returned (.string ⟨([] ++ W ++ F ++ um u).toArray⟩) ∧ IsText a W F ∧ Below w.heap.size w w' := by
  by_cases hc : a % 100 = 0
  · have hc1 : (((a : Int) % 100) != 0) = false := by simp; omega
    cases u
    all_goals
      go_enter Tryf.func6, Tryf.ntmps6
      go_wp2_with fail
      refine (utoa_int _ _ (by omega) (by omega)).mono ?_
      rintro e w1 ⟨l1, rfl, hn1, hb1⟩
      have hl1 := hn1.2.2.1
      go_wp2_with fail
      go_ret
      exact ⟨l1, [], ret_str (by simp [um, ByteArray.data_append]), text0 hn1 hc, hb1⟩
  · have hc1 : (((a : Int) % 100) != 0) = true := by simp; omega
    by_cases hd : a % 10 = 0
    · have hd1 : (((a : Int) % 100 % 10) != 0) = false := by simp; omega
      cases u
      all_goals
        go_enter Tryf.func6, Tryf.ntmps6
        go_wp2_with fail
        refine (utoa_int _ _ (by omega) (by omega)).mono ?_
        rintro e w1 ⟨l1, rfl, hn1, hb1⟩
        have hl1 := hn1.2.2.1
        go_wp2_with fail
        refine (utoa_int _ _ (by omega) (by omega)).mono ?_
        rintro e w2 ⟨l2, rfl, hn2, hb2⟩
        have hl2 := hn2.2.2.1
        go_wp2_with fail
        go_ret
        exact ⟨l1, 46 :: l2, ret_str (by simp [um, ByteArray.data_append]), text1 hn1 hn2 hd, hb1.trans (hb2.mono hb1.size)⟩
    · have hd1 : (((a : Int) % 100 % 10) != 0) = true := by simp; omega
      cases u
      all_goals
        go_enter Tryf.func6, Tryf.ntmps6
        go_wp2_with fail
        refine (utoa_int _ _ (by omega) (by omega)).mono ?_
        rintro e w1 ⟨l1, rfl, hn1, hb1⟩
        have hl1 := hn1.2.2.1
        go_wp2_with fail
        refine (utoa_int _ _ (by omega) (by omega)).mono ?_
        rintro e w2 ⟨l2, rfl, hn2, hb2⟩
        have hl2 := hn2.2.2.1
        go_wp2_with fail
        refine (utoa_int _ _ (by omega) (by omega)).mono ?_
        rintro e w3 ⟨l3, rfl, hn3, hb3⟩
        have hl3 := hn3.2.2.1
        go_wp2_with fail
        go_ret
        exact ⟨l1, 46 :: l2 ++ l3, ret_str (by simp [um, ByteArray.data_append]), text2 hn1 hn2 hn3, hb1.trans ((hb2.mono hb1.size).trans (hb3.mono (Nat.le_trans hb1.size hb2.size)))⟩

set_option maxHeartbeats 1000000 in
theorem text_neg (a : Nat) (u : Bool) (h1 : 1 ≤ a) (ha : a ≤ 9223372036854775807) (w : World) :
    Calls Tryf.prog 6 #[.int .i64 (-(a : Int)), .bool u] w fun e w' => ∃ W F : List UInt8, e = .returned (.string ⟨([45] ++ W ++ F ++ um u).toArray⟩) ∧ IsText a W F ∧ Below w.heap.size w w' := by
  by_cases hc : a % 100 = 0
  · have hc1 : (((a : Int) % 100) != 0) = false := by simp; omega
    cases u
    all_goals
      go_enter Tryf.func6, Tryf.ntmps6
      go_wp2_with fail
      refine (utoa_int _ _ (by omega) (by omega)).mono ?_
      rintro e w1 ⟨l1, rfl, hn1, hb1⟩
      have hl1 := hn1.2.2.1
      go_wp2_with fail
      go_ret
      exact ⟨l1, [], ret_str (by simp [um, ByteArray.data_append]), text0 hn1 hc, hb1⟩
  · have hc1 : (((a : Int) % 100) != 0) = true := by simp; omega
    by_cases hd : a % 10 = 0
    · have hd1 : (((a : Int) % 100 % 10) != 0) = false := by simp; omega
      cases u
      all_goals
        go_enter Tryf.func6, Tryf.ntmps6
        go_wp2_with fail
        refine (utoa_int _ _ (by omega) (by omega)).mono ?_
        rintro e w1 ⟨l1, rfl, hn1, hb1⟩
        have hl1 := hn1.2.2.1
        go_wp2_with fail
        refine (utoa_int _ _ (by omega) (by omega)).mono ?_
        rintro e w2 ⟨l2, rfl, hn2, hb2⟩
        have hl2 := hn2.2.2.1
        go_wp2_with fail
        go_ret
        exact ⟨l1, 46 :: l2, ret_str (by simp [um, ByteArray.data_append]), text1 hn1 hn2 hd, hb1.trans (hb2.mono hb1.size)⟩
    · have hd1 : (((a : Int) % 100 % 10) != 0) = true := by simp; omega
      cases u
      all_goals
        go_enter Tryf.func6, Tryf.ntmps6
        go_wp2_with fail
        refine (utoa_int _ _ (by omega) (by omega)).mono ?_
        rintro e w1 ⟨l1, rfl, hn1, hb1⟩
        have hl1 := hn1.2.2.1
        go_wp2_with fail
        refine (utoa_int _ _ (by omega) (by omega)).mono ?_
        rintro e w2 ⟨l2, rfl, hn2, hb2⟩
        have hl2 := hn2.2.2.1
        go_wp2_with fail
        refine (utoa_int _ _ (by omega) (by omega)).mono ?_
        rintro e w3 ⟨l3, rfl, hn3, hb3⟩
        have hl3 := hn3.2.2.1
        go_wp2_with fail
        go_ret
        exact ⟨l1, 46 :: l2 ++ l3, ret_str (by simp [um, ByteArray.data_append]), text2 hn1 hn2 hn3, hb1.trans ((hb2.mono hb1.size).trans (hb3.mono (Nat.le_trans hb1.size hb2.size)))⟩

end Go.Proofs.Qxb6609261aFmt.fnMetres
