import Derived.Test.Qxb6609261aFmtW5
namespace Go.Proofs.Qxb6609261aFmt.fnMetres
open Go.RowKit

theorem bcell {B : Nat} {W w1 : World} (hb : Below B W w1) : (∀ b o, b < B → w1.cell? ⟨b, o, none⟩ = W.cell? ⟨b, o, none⟩) ∧ (∀ b o, b < B → w1.frozen? ⟨b, o, none⟩ = W.frozen? ⟨b, o, none⟩) :=
  ⟨fun b o h => hb.cell (p := ⟨b, o, none⟩) h, fun b o h => hb.frozen (p := ⟨b, o, none⟩) h⟩

/-- The text that the parser holds: a blank, a word without blanks, a tab, the rest. -/
theorem split_any (b : Nat) (t r : List UInt8) (w : World) (hc : w.cell? ⟨b, 0, none⟩ = some (.string ⟨(32 :: (t ++ 9 :: r)).toArray⟩))
    (ht : ∀ c ∈ t, c ≠ 32 ∧ c ≠ 9) (h1 : 1 ≤ t.length) (hl : t.length + r.length ≤ 900) :
    Calls Tryf.prog 30 #[.pointer (some ⟨b, 0, none⟩)] w fun e w' => e = .returned (.tuple #[.string ⟨t.toArray⟩, .string ⟨(9 :: r).toArray⟩]) ∧ Below w.heap.size w w' := by
  have key := split_core b (32 :: (t ++ 9 :: r)) (t.length + 1) w hc (by omega) (by simp) (by simp; omega) rfl ?_ ?_ (by omega)
  · have e1 : (List.drop 1 (List.take (t.length + 1) (32 :: (t ++ 9 :: r)))) = t := by simp
    have e2 : List.drop (t.length + 1) (32 :: (t ++ 9 :: r)) = 9 :: r := by simp
    rw [e1, e2] at key
    exact key
  · intro k h hk1 hk2
    have e : (⟨(32 :: (t ++ 9 :: r)).toArray⟩ : ByteArray)[k]'h = (32 :: (t ++ 9 :: r))[k]'h := rfl
    rw [e]
    obtain ⟨j, rfl⟩ : ∃ j, k = j + 1 := ⟨k - 1, by omega⟩
    rw [List.getElem_cons_succ, List.getElem_append_left (by omega)]
    exact ht _ (List.getElem_mem _)
  · have e : (⟨(32 :: (t ++ 9 :: r)).toArray⟩ : ByteArray)[t.length + 1]'(by simp [ByteArray.size]) = (32 :: (t ++ 9 :: r))[t.length + 1]'(by simp) := rfl
    rw [e, List.getElem_cons_succ, List.getElem_append_right (by omega)]
    simp

set_option maxHeartbeats 400000 in
theorem next_any (b : Nat) (t r : List UInt8) (w : World) (hc : w.cell? ⟨b, 0, none⟩ = some (.string ⟨(32 :: (t ++ 9 :: r)).toArray⟩)) (hf : w.frozen? ⟨b, 0, none⟩ = false) (hb : b < w.heap.size)
    (ht : ∀ c ∈ t, c ≠ 32 ∧ c ≠ 9) (h1 : 1 ≤ t.length) (hl : t.length + r.length ≤ 900) :
    Calls Tryf.prog 23 #[.pointer (some ⟨b, 0, none⟩)] w fun e w' => e = .returned (.string ⟨t.toArray⟩) ∧ w'.cell? ⟨b, 0, none⟩ = some (.string ⟨(9 :: r).toArray⟩) ∧ Below b w w' := by
  go_enter Tryf.func23, Tryf.ntmps23
  go_wp2_with fail
  refine (split_any b t r _ hc ht h1 hl).mono ?_
  rintro e w1 ⟨rfl, hb1⟩
  obtain ⟨c1, c2⟩ := bcell hb1
  have d1 := (c1 b 0 hb).trans hc
  have d2 := (c2 b 0 hb).trans hf
  clear c1 c2 hc hf
  go_wp2_with fail
  go_ret
  exact ⟨rfl, World.cell?_setCell_same _ _ _ d1, (hb1.mono (Nat.le_of_lt hb)).setCell (Nat.le_refl _) _⟩

theorem ret_bool {a b : Bool} (h : a = b) : Ending.returned (.bool a) = .returned (.bool b) := by rw [h]

theorem suffix_any (l : List UInt8) (c : UInt8) (w : World) (hl : l.length ≤ 900) :
    Calls Tryf.prog 40 #[.string ⟨(l ++ [c]).toArray⟩, .string ⟨#[109]⟩] w fun e w' => e = .returned (.bool (c == 109)) ∧ w = w' := by
  go_enter Tryf.func40, Tryf.ntmps40
  go_wp2_with fail
  go_ret
  refine ⟨ret_bool ?_, rfl⟩
  rw [bs_extract, List.take_of_length_le (by simp)]
  simp [go_sem]

theorem trim_yes (l : List UInt8) (w : World) (hl : l.length ≤ 900) :
    Calls Tryf.prog 27 #[.string ⟨(l ++ [109]).toArray⟩, .string ⟨#[109]⟩] w fun e w' => e = .returned (.string ⟨l.toArray⟩) ∧ w = w' := by
  have h33 : ∀ w, Calls Tryf.prog 33 #[.string ⟨(l ++ [109]).toArray⟩, .string ⟨#[109]⟩] w fun e w' => e = .returned (.string ⟨l.toArray⟩) ∧ w = w' := by
    intro w
    go_enter Tryf.func33, Tryf.ntmps33
    go_wp2_with fail
    refine (suffix_any l 109 _ hl).mono ?_
    rintro e w1 ⟨rfl, rfl⟩
    go_wp2_with fail
    go_ret
    refine ⟨ret_str ?_, rfl⟩
    rw [bs_extract]
    simp
  go_enter Tryf.func27, Tryf.ntmps27
  go_wp2_with fail
  refine (h33 _).mono ?_
  rintro e w1 ⟨rfl, rfl⟩
  go_wp2_with fail
  go_ret
  exact ⟨rfl, rfl⟩

theorem trim_no (l : List UInt8) (c : UInt8) (w : World) (hl : l.length ≤ 900) (hc : (c == 109) = false) :
    Calls Tryf.prog 27 #[.string ⟨(l ++ [c]).toArray⟩, .string ⟨#[109]⟩] w fun e w' => e = .returned (.string ⟨(l ++ [c]).toArray⟩) ∧ w = w' := by
  have h33 : ∀ w, Calls Tryf.prog 33 #[.string ⟨(l ++ [c]).toArray⟩, .string ⟨#[109]⟩] w fun e w' => e = .returned (.string ⟨(l ++ [c]).toArray⟩) ∧ w = w' := by
    intro w
    go_enter Tryf.func33, Tryf.ntmps33
    go_wp2_with fail
    refine (suffix_any l c _ hl).mono ?_
    rintro e w1 ⟨rfl, rfl⟩
    go_wp2_with fail
    go_ret
    exact ⟨rfl, rfl⟩
  go_enter Tryf.func27, Tryf.ntmps27
  go_wp2_with fail
  refine (h33 _).mono ?_
  rintro e w1 ⟨rfl, rfl⟩
  go_wp2_with fail
  go_ret
  exact ⟨rfl, rfl⟩
end Go.Proofs.Qxb6609261aFmt.fnMetres
