import Derived.Test.Qxb6615772aDoorW4
namespace Go.Proofs.Qxb6615772aDoor.fnDec
open Go.RowKit

/-- What lies in the buffer is what follows p in the text. -/
def Dat (S : List UInt8) (mx : Int) (p st en : Nat) (cur : List UInt8) (eof : Bool) : Prop :=
  st ≤ en ∧ en ≤ cur.length ∧ ((cur.length : Int) ≤ mx ∨ cur.length = 0) ∧ (cur.take en).drop st = (S.drop p).take (en - st) ∧ p + (en - st) ≤ S.length ∧
  (eof = true → p + (en - st) = S.length ∧ ((S.length - p : Nat) : Int) + 1 ≤ mx ∧ en < cur.length)

/-- The place behind the line that begins at p. -/
def nxt (S : List UInt8) (p : Nat) : Nat := if (10 : UInt8) ∈ S.drop p then p + (ln (S.drop p)).length + 1 else S.length

theorem ln_nl (l m : List UInt8) (h : (10 : UInt8) ∉ l) : ln (l ++ 10 :: m) = l := by
  unfold ln
  rw [List.takeWhile_append_of_pos]
  · simp
  · intro a ha
    simp
    rintro rfl
    exact h ha

theorem ln_none (l : List UInt8) (h : (10 : UInt8) ∉ l) : ln l = l := by
  have := List.takeWhile_append_of_pos (p := fun x : UInt8 => x != 10) (l₁ := l) (l₂ := []) (by
    intro a ha
    simp
    rintro rfl
    exact h ha)
  unfold ln
  simpa using this

theorem split_nl (x : List UInt8) (h : (10 : UInt8) ∈ x) : ∃ l m, x = l ++ 10 :: m ∧ (10 : UInt8) ∉ l := by
  induction x with
  | nil => simp at h
  | cons c x ih =>
    by_cases hc : c = 10
    · exact ⟨[], x, by simp [hc], by simp⟩
    · obtain ⟨l, m, rfl, hl⟩ := ih (by simpa [Ne.symm hc] using h)
      exact ⟨c :: l, m, by simp, by simp [Ne.symm hc, hl]⟩

/-- A line whose newline lies in the first m bytes. -/
theorem line_in {S : List UInt8} {p m : Nat} {l t : List UInt8} (h : (S.drop p).take m = l ++ 10 :: t) (hl : (10 : UInt8) ∉ l) : ln (S.drop p) = l ∧ nxt S p = p + l.length + 1 := by
  have e : S.drop p = l ++ 10 :: (t ++ (S.drop p).drop m) := by
    have := List.take_append_drop m (S.drop p)
    rw [h] at this
    have e2 := this.symm
    rw [List.append_assoc, List.cons_append] at e2
    exact e2
  have h1 : ln (S.drop p) = l := by rw [e, ln_nl l _ hl]
  refine ⟨h1, ?_⟩
  unfold nxt
  rw [h1, if_pos (by rw [e]; simp)]

/-- No newline in the first m bytes: the line is at least that long. -/
theorem line_out {S : List UInt8} {p m : Nat} (h : (10 : UInt8) ∉ (S.drop p).take m) (hm : p + m ≤ S.length) : m ≤ (ln (S.drop p)).length := by
  have e := List.take_append_drop m (S.drop p)
  unfold ln
  rw [← e, List.takeWhile_append_of_pos (by
    intro a ha
    simp
    rintro rfl
    exact h ha)]
  simp
  omega

theorem cr_prefix (x : List UInt8) : ∃ t, x = cr x ++ t := by
  unfold cr
  split
  · rename_i h
    have hne : x ≠ [] := by rintro rfl; simp at h
    exact ⟨[x.getLast hne], (List.dropLast_concat_getLast hne).symm⟩
  · exact ⟨[], by simp⟩

section
variable {S : List UInt8} {mx : Int} {p st en : Nat} {cur : List UInt8}

theorem dat_len {eof : Bool} (h : Dat S mx p st en cur eof) : ((cur.take en).drop st).length = en - st := by
  obtain ⟨h1, h2, -⟩ := h
  simp; omega

theorem dat_get {eof : Bool} (h : Dat S mx p st en cur eof) {x : List UInt8} (hx : (cur.take en).drop st = x) : ∀ j (hj : j < x.length), ∃ hc : st + j < cur.length, cur[st + j] = x[j] := by
  have hl := dat_len h
  obtain ⟨h1, h2, -⟩ := h
  subst hx
  intro j hj
  have : st + j < cur.length := by omega
  exact ⟨this, by simp⟩

theorem dat_prefix {l t : List UInt8} {w : World} {B r : Nat} {eof : Bool} (h : Dat S mx p st en cur eof) (hB : Buf r w B cur) (hx : (cur.take en).drop st = l ++ t) : Holds w B st l :=
  hB.holds st l (fun j hj => by
    obtain ⟨hc, e⟩ := dat_get h hx j (by simp; omega)
    exact ⟨hc, by rw [e, List.getElem_append_left hj]⟩)

/-- Behind a token. -/
theorem dat_adv {eof : Bool} (h : Dat S mx p st en cur eof) (adv : Nat) (ha : st + adv ≤ en) : Dat S mx (p + adv) (st + adv) en cur eof := by
  obtain ⟨h1, h2, h3, h4, h5, h6⟩ := h
  refine ⟨ha, h2, h3, ?_, by omega, fun he => ?_⟩
  · rw [← List.drop_drop, h4, List.drop_take, List.drop_drop]
    congr 1
    omega
  · obtain ⟨a, b, c⟩ := h6 he
    exact ⟨by omega, by omega, c⟩

/-- Behind the shift. -/
theorem dat_shift (h : Dat S mx p st en cur false) : Dat S mx p 0 (en - st) ((cur.take en).drop st ++ cur.drop (en - st)) false ∧ ((cur.take en).drop st ++ cur.drop (en - st)).length = cur.length := by
  have hl := dat_len h
  obtain ⟨h1, h2, h3, h4, h5, h6⟩ := h
  have hlen : ((cur.take en).drop st ++ cur.drop (en - st)).length = cur.length := by
    rw [List.length_append, hl]; simp; omega
  refine ⟨⟨Nat.zero_le _, by rw [hlen]; omega, by rw [hlen]; exact h3, ?_, by omega, by simp⟩, hlen⟩
  rw [List.drop_zero, List.take_append_of_le_length (by rw [hl]; exact Nat.le_refl _), List.take_of_length_le (by rw [hl]; exact Nat.le_refl _), h4]
  simp

/-- Behind the growing. -/
theorem dat_grow (h : Dat S mx p st en cur false) (n : Nat) (hn : cur.length ≤ n) (hm : (n : Int) ≤ mx) : Dat S mx p st en (cur ++ List.replicate (n - cur.length) 0) false ∧ (cur ++ List.replicate (n - cur.length) (0 : UInt8)).length = n := by
  obtain ⟨h1, h2, h3, h4, h5, h6⟩ := h
  have hlen : (cur ++ List.replicate (n - cur.length) (0 : UInt8)).length = n := by simp; omega
  refine ⟨⟨h1, by rw [hlen]; omega, by rw [hlen]; exact Or.inl hm, ?_, h5, by simp⟩, hlen⟩
  rw [List.take_append_of_le_length h2, h4]

/-- Behind a read. -/
theorem dat_read (h : Dat S mx p st en cur false) (n : Nat) (hn : n ≤ S.length - (p + (en - st))) (hn2 : n ≤ cur.length - en) :
    Dat S mx p st (en + n) (cur.take en ++ (S.drop (p + (en - st))).take n ++ cur.drop (en + n)) false ∧ (cur.take en ++ (S.drop (p + (en - st))).take n ++ cur.drop (en + n)).length = cur.length := by
  obtain ⟨h1, h2, h3, h4, h5, h6⟩ := h
  have ha : (cur.take en).length = en := by simp; omega
  have hb : ((S.drop (p + (en - st))).take n).length = n := by simp; omega
  have hlen : (cur.take en ++ (S.drop (p + (en - st))).take n ++ cur.drop (en + n)).length = cur.length := by
    rw [List.length_append, List.length_append, ha, hb]; simp; omega
  refine ⟨⟨by omega, by rw [hlen]; omega, by rw [hlen]; exact h3, ?_, by omega, by simp⟩, hlen⟩
  rw [List.take_append_of_le_length (by rw [List.length_append, ha, hb]; exact Nat.le_refl _), List.take_of_length_le (by rw [List.length_append, ha, hb]; exact Nat.le_refl _),
    List.drop_append_of_le_length (by rw [ha]; exact h1), h4, ← List.drop_drop]
  have e : en + n - st = (en - st) + n := by omega
  rw [e, List.take_add]

/-- At the end of the text. -/
theorem dat_eof (h : Dat S mx p st en cur false) (hp : S.length ≤ p + (en - st)) (he : en < cur.length) : Dat S mx p st en cur true := by
  obtain ⟨h1, h2, h3, h4, h5, h6⟩ := h
  exact ⟨h1, h2, h3, h4, h5, fun _ => ⟨by omega, by omega, he⟩⟩
end
end Go.Proofs.Qxb6615772aDoor.fnDec
