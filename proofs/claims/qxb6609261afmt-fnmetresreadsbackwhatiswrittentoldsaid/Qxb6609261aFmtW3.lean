import Derived.Test.Qxb6609261aFmtW2
import Derived.Lib.Bytealg
import Derived.Laws.StandIn

namespace Go.Proofs.Qxb6609261aFmt.fnMetres
open Go.RowKit

theorem call58 (s : ByteArray) (c : Int) (w : World) : (callFunc 58 #[.string s, .int .u8 c]).run Tryf.prog w = .ok (.value (.int .i64 (Lib.indexByte s.data.toList c.toNat.toUInt8))) w := by
  rw [run_callFunc_indexByte Tryf.func58 (by kernel_rfl) (by kernel_rfl) (by kernel_rfl) (by kernel_rfl), Lib.run_indexByteString]
  rfl

/-- internal/stringslite.IndexByte -/
theorem indexByte_any (s : ByteArray) (c : Int) (w : World) :
    Calls Tryf.prog 51 #[.string s, .int .u8 c] w fun e w' => e = .returned (.int .i64 (Lib.indexByte s.data.toList c.toNat.toUInt8)) ∧ w' = w := by
  have h := call58 s c w
  go_enter Tryf.func51, Tryf.ntmps51
  go_wp2
  go_ret
  exact ⟨rfl, rfl⟩

theorem ret_int {k : IntKind} {a b : Int} (h : a = b) : Ending.returned (.int k a) = .returned (.int k b) := by rw [h]

theorem index_dot (l : List UInt8) (w : World) (hne : ([46] == l) = false) :
    Calls Tryf.prog 45 #[.string ⟨l.toArray⟩, .string ⟨#[46]⟩] w fun e w' => e = .returned (.int .i64 (Lib.indexByte l 46)) ∧ w' = w := by
  go_enter Tryf.func45, Tryf.ntmps45
  go_wp2_with (go_at_call 51; refine (indexByte_any _ _ _).mono ?_; rintro e w' ⟨rfl, rfl⟩)
  go_ret
  exact ⟨ret_int rfl, rfl⟩

theorem indexByte_none (l : List UInt8) (c : UInt8) (h : c ∉ l) : Lib.indexByte l c = -1 := by
  induction l with
  | nil => rfl
  | cons b l ih =>
    have h1 : (b == c) = false := by
      rw [beq_eq_false_iff_ne]; intro e; exact h (by simp [e])
    have h2 := ih (fun hm => h (List.mem_cons_of_mem _ hm))
    unfold Lib.indexByte
    simp [h1, h2]

theorem indexByte_some (W R : List UInt8) (c : UInt8) (h : c ∉ W) : Lib.indexByte (W ++ c :: R) c = (W.length : Int) := by
  induction W with
  | nil => simp [Lib.indexByte]
  | cons b W ih =>
    have h1 : (b == c) = false := by
      rw [beq_eq_false_iff_ne]; intro e; exact h (by simp [e])
    have h2 := ih (fun hm => h (List.mem_cons_of_mem _ hm))
    rw [List.cons_append]
    unfold Lib.indexByte
    have h3 : ((W.length : Int) == -1) = false := by simp
    simp [h1, h2, h3]

theorem cut41_none (l : List UInt8) (w : World) (hn : (46 : UInt8) ∉ l) :
    Calls Tryf.prog 41 #[.string ⟨l.toArray⟩, .string ⟨#[46]⟩] w fun e w' => e = .returned (.tuple #[.string ⟨l.toArray⟩, .string ⟨#[]⟩, .bool false]) ∧ w' = w := by
  have hne : ([46] == l) = false := by
    rw [beq_eq_false_iff_ne]; intro e; exact hn (by simp [← e])
  have hi := indexByte_none l 46 hn
  have c45 := fun w => index_dot l w hne
  rw [hi] at c45
  have C45 : Hid (∀ w, Calls Tryf.prog 45 #[.string ⟨l.toArray⟩, .string ⟨#[46]⟩] w fun e w' => e = .returned (.int .i64 (-1)) ∧ w' = w) := c45
  clear c45 hi
  go_enter Tryf.func41, Tryf.ntmps41
  go_wp2_with (go_at_call 45; refine (C45.out _).mono ?_; rintro e w' ⟨rfl, rfl⟩)
  go_ret3
  exact ⟨rfl, rfl⟩

theorem cut_none (l : List UInt8) (w : World) (hn : (46 : UInt8) ∉ l) :
    Calls Tryf.prog 34 #[.string ⟨l.toArray⟩, .string ⟨#[46]⟩] w fun e w' => e = .returned (.tuple #[.string ⟨l.toArray⟩, .string ⟨#[]⟩, .bool false]) ∧ w' = w := by
  go_enter Tryf.func34, Tryf.ntmps34
  go_wp2_with (go_at_call 41; refine (cut41_none _ _ hn).mono ?_; rintro e w' ⟨rfl, rfl⟩)
  go_ret3
  exact ⟨rfl, rfl⟩

theorem bs_extract (L : List UInt8) (a b : Nat) : (⟨L.toArray⟩ : ByteArray).extract a b = ⟨((L.take b).drop a).toArray⟩ := by
  have h : ((⟨L.toArray⟩ : ByteArray).extract a b).data = ((L.take b).drop a).toArray := by
    rw [ByteArray.data_extract]
    simp [List.extract_eq_take_drop, List.drop_take]
  cases hx : (⟨L.toArray⟩ : ByteArray).extract a b with
  | mk d => rw [hx] at h; simp at h; rw [h]

theorem cut41_some (W R : List UInt8) (w : World) (hn : (46 : UInt8) ∉ W) (h1 : 1 ≤ W.length) (hl : W.length + R.length ≤ 1000) :
    Calls Tryf.prog 41 #[.string ⟨(W ++ 46 :: R).toArray⟩, .string ⟨#[46]⟩] w fun e w' => e = .returned (.tuple #[.string ⟨W.toArray⟩, .string ⟨R.toArray⟩, .bool true]) ∧ Below w.heap.size w w' := by
  have hne : ([46] == (W ++ 46 :: R)) = false := by
    rw [beq_eq_false_iff_ne]; intro e
    have := congrArg List.length e
    simp at this; omega
  have hi := indexByte_some W R 46 hn
  have c45 := fun w => index_dot (W ++ 46 :: R) w hne
  rw [hi] at c45
  generalize hL : W ++ 46 :: R = L at *
  have hLl : L.length = W.length + R.length + 1 := by rw [← hL]; simp; omega
  have h2 : (W.length : Int) < (L.length : Int) := by omega
  have C45 : Hid (∀ w, Calls Tryf.prog 45 #[.string ⟨L.toArray⟩, .string ⟨#[46]⟩] w fun e w' => e = .returned (.int .i64 (W.length : Int)) ∧ w' = w) := c45
  have HL : Hid (W ++ 46 :: R = L) := hL
  clear c45 hi hL hLl
  go_enter Tryf.func41, Tryf.ntmps41
  go_wp2_with (go_at_call 45; refine (C45.out _).mono ?_; rintro e w' ⟨rfl, rfl⟩)
  go_quiet (fail)
  go_wp2
  go_ret3
  have HL' := HL.out
  clear HL
  subst HL'
  refine ⟨?_, below_drewN (Below.refl _ _) _⟩
  have e1 : ((⟨(W ++ 46 :: R).toArray⟩ : ByteArray).extract 0 W.length) = ⟨W.toArray⟩ := by
    rw [bs_extract]; simp
  have e2 : ((⟨(W ++ 46 :: R).toArray⟩ : ByteArray).extract (W.length + 1) (W ++ 46 :: R).length) = ⟨R.toArray⟩ := by
    rw [bs_extract, List.take_length, List.drop_append]; simp
  rw [← e1, ← e2]
  rfl

theorem cut_some (W R : List UInt8) (w : World) (hn : (46 : UInt8) ∉ W) (h1 : 1 ≤ W.length) (hl : W.length + R.length ≤ 1000) :
    Calls Tryf.prog 34 #[.string ⟨(W ++ 46 :: R).toArray⟩, .string ⟨#[46]⟩] w fun e w' => e = .returned (.tuple #[.string ⟨W.toArray⟩, .string ⟨R.toArray⟩, .bool true]) ∧ Below w.heap.size w w' := by
  go_enter Tryf.func34, Tryf.ntmps34
  go_wp2_with fail
  refine (cut41_some W R _ hn h1 hl).mono ?_
  rintro e w' ⟨rfl, hb⟩
  go_wp2
  go_ret3
  exact ⟨rfl, hb⟩

/-- All bytes are decimal digits. -/
def digB (l : List UInt8) : Bool := l.all fun c => decide (48 ≤ c.toNat) && decide (c.toNat ≤ 57)

set_option maxHeartbeats 400000 in
theorem isDigits_yes (l : List UInt8) (w : World) (h1 : 1 ≤ l.length) (hl : l.length ≤ 1000) (hd : ∀ c ∈ l, isDig c) :
    Calls Tryf.prog 35 #[.string ⟨l.toArray⟩] w fun e w' => e = .returned (.bool true) ∧ Below w.heap.size w w' := by
  have hne : l.isEmpty = false := by cases l <;> simp_all
  have hcv := fun w => run_bytes_of_string (P := Tryf.prog) w 9 33 5 ⟨l.toArray⟩ Tryf.underlying9 Tryf.underlying33 Tryf.underlying5
  go_enter Tryf.func35, Tryf.ntmps35
  go_wp2
  go_loop [10] (fun i => ∃ k : Nat, k ≤ l.length ∧ i = .int .i64 k) (fun i => l.length - (intOf i).toNat)
  case atStart => exact ⟨0, Nat.zero_le _, rfl⟩
  case round =>
    obtain ⟨k, hk, rfl⟩ := hrel
    by_cases hlt : k < l.length
    · have hcell : (bytesRow ⟨l.toArray⟩ (grownCap w l.length 0 5))[k]? = some (.int .u8 (l[k].toNat : Int)) := bytesRow_at ⟨l.toArray⟩ _ k (by simpa using hlt)
      have hc2 := World.cell?_alloc_mark w (bytesRow ⟨l.toArray⟩ (grownCap w l.length 0 5)) 5 ((bytesRow ⟨l.toArray⟩ (grownCap w l.length 0 5)).size, (bytesRow ⟨l.toArray⟩ (grownCap w l.length 0 5)).size + 1) k
      rw [hcell] at hc2
      clear hcell
      obtain ⟨d1, d2⟩ := hd l[k] (List.getElem_mem hlt)
      have d3 : ¬ (l[k].toNat : Int) < 48 := by omega
      have d4 : ¬ (57 : Int) < (l[k].toNat : Int) := by omega
      generalize l[k].toNat = z at *
      go_wp2
      go_round
      case rel => exact ⟨k + 1, by omega, by go_num⟩
      case measure => simp [intOf]; omega
    · go_wp2
      go_ret
      exact ⟨rfl, ((Below.refl _ _).alloc (Nat.le_refl _) _).drew⟩
end Go.Proofs.Qxb6609261aFmt.fnMetres
