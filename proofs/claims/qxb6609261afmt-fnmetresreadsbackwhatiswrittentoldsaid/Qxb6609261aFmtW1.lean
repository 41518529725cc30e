import Derived.Test.Qxb6609261aFmtRows
import Derived.WalkKit
import Derived.WalkSpells
import Derived.WalkLawsBesides
import Derived.Below
import Derived.BigQuiet
import Derived.Deep.QuietTactic
import Derived.Laws.BytesArg
import Derived.Laws.IdiomStrings
import Derived.Outline
namespace Go.Proofs.Qxb6609261aFmt.fnMetres
open Go.RowKit

def bufCells (acc : List UInt8) : Array Value := ((List.replicate (20 - acc.length) (0 : UInt8) ++ acc).map (fun b => Value.int .u8 (b.toNat : Int))).toArray

set_option maxHeartbeats 400000 in
theorem bytes_any (n mn mx : Int) (u : Bool) (fld : ByteArray) (hs : fld.size ≤ maxLen) (w : World) :
    Calls Tryf.prog 5 #[.int .i64 n, .int .i64 mn, .int .i64 mx, .bool u, .string fld] w fun e w' => e = .returned (.bool (decide (fld.size ≤ 1048576))) ∧ w' = w := by
  unfold maxLen at hs
  by_cases h : fld.size ≤ 1048576
  · have h1 : ¬ (1048576 : Int) < (fld.size : Int) := by omega
    go_enter Tryf.func5, Tryf.ntmps5
    go_wp2
    go_ret
    exact ⟨by simp, rfl⟩
  · have h1 : (1048576 : Int) < (fld.size : Int) := by omega
    go_enter Tryf.func5, Tryf.ntmps5
    go_wp2
    go_ret
    exact ⟨by simp [h], rfl⟩

theorem blank_any (c : UInt8) (w : World) : Calls Tryf.prog 38 #[.int .u8 (c.toNat : Int)] w fun e w' => e = .returned (.bool (c == 32 || c == 9)) ∧ w' = w := by
  have e1 : ((c.toNat : Int) == 32) = (c == 32) := by
    rw [Bool.eq_iff_iff]; simp [← UInt8.toNat_inj]; omega
  have e2 : ((c.toNat : Int) == 9) = (c == 9) := by
    rw [Bool.eq_iff_iff]; simp [← UInt8.toNat_inj]; omega
  cases h1 : (c == 32) <;> rw [h1] at e1
  · cases h2 : (c == 9) <;> rw [h2] at e2
    all_goals
      go_enter Tryf.func38, Tryf.ntmps38
      go_wp2
      go_ret
      exact ⟨by simp, rfl⟩
  · go_enter Tryf.func38, Tryf.ntmps38
    go_wp2
    go_ret
    exact ⟨by simp, rfl⟩

/-- The number that decimal digits spell. -/
def val (l : List UInt8) : Nat := l.foldl (fun a c => a * 10 + (c.toNat - 48)) 0
def isDig (c : UInt8) : Prop := 48 ≤ c.toNat ∧ c.toNat ≤ 57

theorem foldl_val (l : List UInt8) : ∀ a : Nat, l.foldl (fun a c => a * 10 + (c.toNat - 48)) a = a * 10 ^ l.length + val l := by
  unfold val
  induction l with
  | nil => intro a; simp
  | cons c l ih =>
    intro a
    simp only [List.foldl_cons, List.length_cons]
    rw [ih (a * 10 + (c.toNat - 48)), ih (0 * 10 + (c.toNat - 48))]
    have e : a * 10 ^ (l.length + 1) = a * 10 * 10 ^ l.length := by rw [Nat.pow_succ, Nat.mul_comm (10 ^ l.length) 10, Nat.mul_assoc]
    rw [e, Nat.add_mul, Nat.zero_mul, Nat.zero_add, Nat.add_assoc]

theorem val_cons (c : UInt8) (l : List UInt8) : val (c :: l) = (c.toNat - 48) * 10 ^ l.length + val l := by
  have := foldl_val l (0 * 10 + (c.toNat - 48))
  unfold val at *
  simpa using this

theorem val_append (l m : List UInt8) : val (l ++ m) = val l * 10 ^ m.length + val m := by
  have h := foldl_val m (val l)
  unfold val at *
  rw [List.foldl_append]
  exact h

theorem bufCells_set (acc : List UInt8) (h : acc.length < 20) (c : UInt8) : (bufCells acc).setIfInBounds (19 - acc.length) (.int .u8 (c.toNat : Int)) = bufCells (c :: acc) := by
  unfold bufCells
  have e : 20 - acc.length = (19 - acc.length) + 1 := by omega
  have e' : 20 - (c :: acc).length = 19 - acc.length := by simp
  rw [e', e, List.replicate_succ']
  apply Array.ext'
  simp

theorem bufCells_size (acc : List UInt8) (h : acc.length ≤ 20) : (bufCells acc).size = 20 := by
  unfold bufCells
  simp
  omega

theorem pow_lt_20 {u0 m k v : Nat} (hu : u0 < 18446744073709551616) (h : m * 10 ^ k + v = u0) (hm : 0 < m) : k < 20 := by
  rcases Nat.lt_or_ge k 20 with h' | h'
  · exact h'
  · have h1 : 10 ^ 20 ≤ 10 ^ k := Nat.pow_le_pow_right (by decide) h'
    have h2 : 1 * 10 ^ k ≤ m * 10 ^ k := Nat.mul_le_mul_right _ hm
    have h3 : (10 : Nat) ^ 20 = 100000000000000000000 := by decide
    omega

def utoaRel (u m : Nat) (acc : List UInt8) : Prop :=
  acc.length ≤ 20 ∧ (∀ c ∈ acc, isDig c) ∧ m * 10 ^ acc.length + val acc = u ∧ (acc.length = 0 ∨ (acc.length = 1 ∧ m = u / 10) ∨ 10 ≤ u)

theorem utoaRel_le {u m : Nat} {acc : List UInt8} (h : utoaRel u m acc) : m ≤ u := by
  obtain ⟨_, _, h3, _⟩ := h
  have h1 : m * 1 ≤ m * 10 ^ acc.length := Nat.mul_le_mul_left _ (Nat.pow_pos (by decide))
  omega

theorem bufCells_at (acc : List UInt8) (h : acc.length < 20) : (bufCells acc)[20 - acc.length - 1]? = some (.int .u8 0) := by
  unfold bufCells
  simp
  rw [List.getElem?_append_left (by simp; omega), List.getElem?_replicate]
  simp
  omega

def digOf (m : Nat) : UInt8 := UInt8.ofNat (48 + m % 10)
theorem digOf_toNat (m : Nat) : (digOf m).toNat = 48 + m % 10 := by
  unfold digOf
  simp
  omega

theorem utoaRel_step {u m : Nat} {acc : List UInt8} (hu : u < 18446744073709551616) (h : utoaRel u m acc) (hm : 0 < m) : acc.length < 20 ∧ utoaRel u (m / 10) (digOf m :: acc) := by
  obtain ⟨h1, h2, h3, h4⟩ := h
  have hk := pow_lt_20 hu h3 hm
  have hd := digOf_toNat m
  refine ⟨hk, ⟨by simp; omega, ?_, ?_, ?_⟩⟩
  · intro c hc
    rcases List.mem_cons.1 hc with rfl | hc
    · unfold isDig; omega
    · exact h2 c hc
  · rw [val_cons, hd]
    have e : (48 + m % 10 - 48) = m % 10 := by omega
    rw [e, List.length_cons, Nat.pow_succ, ← Nat.add_assoc, ← h3]
    congr 1
    have e2 : m = 10 * (m / 10) + m % 10 := by omega
    calc m / 10 * (10 ^ acc.length * 10) + m % 10 * 10 ^ acc.length = (10 * (m / 10) + m % 10) * 10 ^ acc.length := by
          rw [Nat.add_mul, Nat.mul_comm 10 (m / 10), Nat.mul_comm (10 ^ acc.length) 10, Nat.mul_assoc]
      _ = m * 10 ^ acc.length := by rw [← e2]
  · rcases h4 with h4 | h4 | h4
    · refine Or.inr (Or.inl ⟨by simp [h4], ?_⟩)
      have : acc = [] := List.length_eq_zero_iff.1 h4
      subst this
      simp [val] at h3
      rw [h3]
    · refine Or.inr (Or.inr ?_)
      omega
    · exact Or.inr (Or.inr h4)

theorem utoaRel_end {u : Nat} {acc : List UInt8} (h0 : u ≠ 0) (h : utoaRel u 0 acc) : val acc = u ∧ 1 ≤ acc.length ∧ acc.length ≤ 20 ∧ (u < 10 → acc.length = 1) ∧ (∀ c ∈ acc, isDig c) := by
  obtain ⟨h1, h2, h3, h4⟩ := h
  simp at h3
  refine ⟨h3, ?_, h1, ?_, h2⟩
  · cases acc with
    | nil => simp [val] at h3; omega
    | cons => simp
  · intro hlt
    rcases h4 with h4 | h4 | h4
    · have : acc = [] := List.length_eq_zero_iff.1 h4
      subst this
      simp [val] at h3
      omega
    · exact h4.1
    · omega

theorem arr55 : Tryf.prog.underlying 55 = some (.array 20 5) := by kernel_rfl
theorem utoa_slice (a : Addr) (n : Nat) (h1 : 1 ≤ n) (h2 : n ≤ 20) : ∀ wx, (Instr.sliceAt 55 (.pointer (some a)) (some (.int .i64 ((20 - n : Nat) : Int))) none none).run Tryf.prog wx = .ok (.slice (some (a.add (20 - n))) n n) wx := by
  intro wx
  have hl : Tryf.prog.arrayLen 55 = 20 := by kernel_rfl
  have he : Tryf.prog.elem 55 = 5 := by kernel_rfl
  have hz : (sizeOf 5).run Tryf.prog wx = .ok 1 wx := by kernel_rfl
  rw [run_sliceAt_array_l (P := Tryf.prog) wx 55 a (by rw [hl, he]; exact arr55) .i64 _ (by omega) (by rw [hl]; omega), he, hz, hl]
  simp [slicedAt, show ¬ 20 = 20 - n by omega, show 20 - (20 - n) = n by omega]

theorem bufCells_get (acc : List UInt8) (j : Nat) (hj : j < acc.length) : (bufCells acc)[20 - acc.length + j]? = some (.int .u8 (acc[j].toNat : Int)) := by
  unfold bufCells
  simp
  rw [List.getElem?_append_right (by simp)]
  simp [hj]

theorem utoa_conv (w : World) (acc : List UInt8) :
    (convert 33 9 (.slice (some ⟨w.heap.size, 20 - acc.length, none⟩) acc.length acc.length)).run Tryf.prog (w.alloc (.cells (bufCells acc) 55)) = .ok (.string ⟨acc.toArray⟩) (w.alloc (.cells (bufCells acc) 55)) := by
  refine run_convert_bytes_back _ 33 9 5 _ _ acc Tryf.underlying33 Tryf.underlying5 Tryf.underlying9 (fun j hj => ?_)
  have hp : (⟨w.heap.size, 20 - acc.length, none⟩ : Addr).add j = ⟨w.heap.size, 20 - acc.length + j, none⟩ := by unfold Addr.add; split <;> simp_all
  rw [hp]
  have := bufCells_get acc j hj
  simpa using this

set_option maxRecDepth 10000 in
set_option maxHeartbeats 400000 in
theorem utoa_any (u : Nat) (hu : u < 18446744073709551616) (w : World) :
    Calls Tryf.prog 15 #[.int .u64 (u : Int)] w fun e w' => ∃ l : List UInt8, e = .returned (.string ⟨l.toArray⟩) ∧ (val l = u ∧ 1 ≤ l.length ∧ l.length ≤ 20 ∧ (u < 10 → l.length = 1) ∧ (∀ c ∈ l, isDig c)) ∧ Below w.heap.size w w' := by
  by_cases h0 : u = 0
  · subst h0
    go_enter Tryf.func15, Tryf.ntmps15
    go_wp2
    go_ret
    refine ⟨[48], rfl, ⟨by decide, by decide, by decide, fun _ => rfl, fun c hc => ?_⟩, Below.refl _ _⟩
    simp at hc
    subst hc
    exact ⟨by decide, by decide⟩
  · have h1 : ((u : Int) == 0) = false := by simp; omega
    go_enter Tryf.func15, Tryf.ntmps15
    go_wp2
    go_loopw [0, 4] (fun m i wr => ∃ (k : Nat) (acc : List UInt8), m = .int .u64 (k : Int) ∧ i = .int .i64 ((20 - acc.length : Nat) : Int) ∧ wr = w.alloc (.cells (bufCells acc) 55) ∧ Hid (utoaRel u k acc)) (fun m _ _ => (intOf m).toNat)
    case atStart => exact ⟨u, [], rfl, rfl, rfl, ⟨by simp, by simp, by simp [val], Or.inl rfl⟩⟩
    case round =>
      obtain ⟨m, acc, rfl, rfl, rfl, hr⟩ := hrel
      by_cases hm : 0 < m
      · obtain ⟨hlt, hst⟩ := utoaRel_step hu hr.out hm
        have HS : Hid (utoaRel u (m / 10) (digOf m :: acc)) := hst
        have hmu := utoaRel_le hr.out
        have hc := bufCells_at acc hlt
        clear hst
        go_wp2
        go_roundw
        case rel =>
          refine ⟨m / 10, digOf m :: acc, ?_, ?_, ?_, HS⟩
          · simp
          · simp
            omega
          · have e1 : (20 - acc.length - 1) = 19 - acc.length := by omega
            have e2 : (48 + (m : Int) % 10) = ((digOf m).toNat : Int) := by rw [digOf_toNat]; omega
            rw [e1, e2, bufCells_set acc hlt]
        case measure => simp [intOf]; omega
      · obtain rfl : m = 0 := by omega
        obtain ⟨e1, e2, e3, e4, e5⟩ := utoaRel_end h0 hr.out
        have hsl := utoa_slice ⟨w.heap.size, 0, none⟩ acc.length e2 e3
        have hcv := utoa_conv w acc
        have H : Hid (val acc = u ∧ 1 ≤ acc.length ∧ acc.length ≤ 20 ∧ (u < 10 → acc.length = 1) ∧ (∀ c ∈ acc, isDig c)) := ⟨e1, e2, e3, e4, e5⟩
        clear e1 e4 e5
        go_wp2
        go_ret
        exact ⟨acc, rfl, H.out, (Below.refl _ _).alloc (Nat.le_refl _) _⟩
/-- What a number written by 'zzUtoa' is. -/
def IsNum (u : Nat) (l : List UInt8) : Prop := val l = u ∧ 1 ≤ l.length ∧ l.length ≤ 20 ∧ (u < 10 → l.length = 1) ∧ (∀ c ∈ l, isDig c)

theorem utoa_int (m : Int) (w : World) (h0 : 0 ≤ m) (h1 : m < 18446744073709551616) :
    Calls Tryf.prog 15 #[.int .u64 m] w fun e w' => ∃ l : List UInt8, e = .returned (.string ⟨l.toArray⟩) ∧ IsNum m.toNat l ∧ Below w.heap.size w w' := by
  obtain ⟨u, rfl⟩ := Int.eq_ofNat_of_zero_le h0
  exact utoa_any u (by omega) w
end Go.Proofs.Qxb6609261aFmt.fnMetres
