import Derived.Test.Qxb6615772aDoorW1
import Derived.WideLaws
import Derived.Lib.BytesEntry
namespace Go.Proofs.Qxb6615772aDoor.fnDec
open Go.RowKit

theorem eq_nil_nil (w : World) : (binOp .eql 28 .nilIface .nilIface).run Tryd.prog w = .ok (.bool true) w := by kernel_rfl
theorem ne_nil_nil (w : World) : (binOp .neq 28 .nilIface .nilIface).run Tryd.prog w = .ok (.bool false) w := by kernel_rfl

/-- setErr where no error has been recorded. -/
theorem setErr_nil (sc : Nat) (T : TypeId) (v : Value) (w : World) (h7 : w.cell? ⟨sc, 7, none⟩ = some .nilIface) (hf : w.frozen? ⟨sc, 7, none⟩ = false) :
    Calls Tryd.prog 18 #[.pointer (some ⟨sc, 0, none⟩), .iface T v] w fun e w' => e = .returned (.tuple #[]) ∧ ∃ n, w' = (w.setCell ⟨sc, 7, none⟩ (.iface T v)).drewN n := by
  have he := eq_nil_nil
  go_enter Tryd.func18, Tryd.ntmps18
  go_wp2_with fail
  go_quiet (fail)
  go_wp2
  go_end0
  exact ⟨rfl, nq, rfl⟩

/-- advance within what lies there. -/
theorem advance_ok (sc : Nat) (st en n : Nat) (w : World) (h5 : w.cell? ⟨sc, 5, none⟩ = some (.int .i64 (st : Int))) (h6 : w.cell? ⟨sc, 6, none⟩ = some (.int .i64 (en : Int))) (hf : w.frozen? ⟨sc, 5, none⟩ = false)
    (hn : st + n ≤ en) (hen : en ≤ 9223372036854775807) :
    Calls Tryd.prog 19 #[.pointer (some ⟨sc, 0, none⟩), .int .i64 (n : Int)] w fun e w' => e = .returned (.bool true) ∧ ∃ k, w' = (w.setCell ⟨sc, 5, none⟩ (.int .i64 ((st + n : Nat) : Int))).drewN k := by
  have h1 : ¬ ((en : Int) - (st : Int) < (n : Int)) := by omega
  go_enter Tryd.func19, Tryd.ntmps19
  go_wp2_with fail
  go_quiet (fail)
  go_wp2
  go_ret
  exact ⟨rfl, nq, by rw [Int.natCast_add]; rfl⟩

/-- The cells of a row of bytes. -/
def bc (l : List UInt8) : List Value := l.map fun c => .int .u8 (c.toNat : Int)
theorem bc_length (l : List UInt8) : (bc l).length = l.length := by simp [bc]
theorem bc_get (l : List UInt8) (j : Nat) (h : j < l.length) : (bc l)[j]? = some (.int .u8 (l[j].toNat : Int)) := by simp [bc, h]
theorem bc_append (a b : List UInt8) : bc (a ++ b) = bc a ++ bc b := by simp [bc]
theorem bc_take (a : List UInt8) (n : Nat) : bc (a.take n) = (bc a).take n := by simp [bc]
theorem bc_drop (a : List UInt8) (n : Nat) : bc (a.drop n) = (bc a).drop n := by simp [bc]
theorem bc_one (l : List UInt8) : ∀ v ∈ bc l, v.oneCell' = true := by
  intro v hv
  simp only [bc, List.mem_map] at hv
  obtain ⟨b, _, rfl⟩ := hv
  rfl

/-- The slice at ⟨B, o⟩ holds the bytes x. -/
def Holds (w : World) (B o : Nat) (x : List UInt8) : Prop := ∀ j (h : j < x.length), w.cell? ⟨B, o + j, none⟩ = some (.int .u8 (x[j].toNat : Int))

/-- A line without its carriage return. -/
def cr (x : List UInt8) : List UInt8 := if x.getLast? = some 13 then x.dropLast else x

theorem cr_snoc (l : List UInt8) (c : UInt8) : cr (l ++ [c]) = if c = 13 then l else l ++ [c] := by
  simp [cr]

theorem dropCR_any (B o n c : Nat) (x : List UInt8) (w : World) (hx : x.length = n) (hc : Holds w B o x) (hn : n ≤ 4294967296) (hnc : n ≤ c) :
    Calls Tryd.prog 22 #[.slice (some ⟨B, o, none⟩) n c] w fun e w' => e = .returned (.slice (some ⟨B, o, none⟩) (cr x).length c) ∧ w = w' := by
  rcases List.eq_nil_or_concat x with rfl | ⟨l, b, rfl⟩
  · obtain rfl : n = 0 := by simpa using hx.symm
    go_enter Tryd.func22, Tryd.ntmps22
    go_wp2
    go_ret
    exact ⟨rfl, rfl⟩
  · obtain rfl : n = l.length + 1 := by simpa using hx.symm
    have h1 : w.cell? ⟨B, o + l.length, none⟩ = some (.int .u8 (b.toNat : Int)) := by
      have := hc l.length (by simp)
      simpa using this
    clear hc
    rw [List.concat_eq_append, cr_snoc]
    by_cases hb : b = 13
    · subst hb
      go_enter Tryd.func22, Tryd.ntmps22
      go_wp2
      go_ret
      exact ⟨by simp, rfl⟩
    · have hb' : ((b.toNat : Int) == 13) = false := by
        rw [beq_eq_false_iff_ne]; intro e; exact hb (UInt8.toNat_inj.1 (show b.toNat = 13 by omega))
      rw [if_neg hb]
      go_enter Tryd.func22, Tryd.ntmps22
      go_wp2
      go_ret
      exact ⟨by simp, rfl⟩
theorem bytesOf_nat (x : List UInt8) : Lib.bytesOf (x.map fun c => (c.toNat : Int)) = x := by
  unfold Lib.bytesOf
  rw [List.map_map]
  have : ((fun n : Int => UInt8.ofNat n.toNat) ∘ fun c : UInt8 => (c.toNat : Int)) = id := by funext c; simp
  rw [this, List.map_id]

theorem call23 (B o n c : Nat) (x : List UInt8) (w : World) (hx : x.length = n) (hc : Holds w B o x) :
    (callFunc 23 #[.slice (some ⟨B, o, none⟩) n c, .int .u8 10]).run Tryd.prog w = .ok (.value (.int .i64 (Lib.indexByte x 10))) w := by
  have hl := Lib.run_indexByteSlice (P := Tryd.prog) w B o n c (x.map fun c => (c.toNat : Int)) (by simpa using hx) (fun i hi => by
    rw [hc i (by omega)]
    simp [List.getD, List.getElem?_eq_getElem (show i < x.length by omega)]) 10
  rw [bytesOf_nat] at hl
  rw [run_callFunc_indexByte Tryd.func23 (by kernel_rfl) (by kernel_rfl) (by kernel_rfl) (by kernel_rfl), hl]
  rfl

theorem indexByte_nl (B o n c : Nat) (x : List UInt8) (w : World) (hx : x.length = n) (hc : Holds w B o x) :
    Calls Tryd.prog 21 #[.slice (some ⟨B, o, none⟩) n c, .int .u8 10] w fun e w' => e = .returned (.int .i64 (Lib.indexByte x 10)) ∧ w = w' := by
  have h := call23 B o n c x w hx hc
  clear hc
  go_enter Tryd.func21, Tryd.ntmps21
  go_wp2
  go_ret
  exact ⟨rfl, rfl⟩

theorem indexByte_none (l : List UInt8) (c : UInt8) (h : c ∉ l) : Lib.indexByte l c = -1 := by
  induction l with
  | nil => rfl
  | cons b l ih =>
    have h1 : (b == c) = false := by
      rw [beq_eq_false_iff_ne]; intro e; exact h (by simp [e])
    have h2 := ih (fun hm => h (List.mem_cons_of_mem _ hm))
    unfold Lib.indexByte
    simp [h1, h2]

theorem indexByte_some (W R : List UInt8) (c : UInt8) (h : c ∉ W) : Lib.indexByte (W ++ c :: R) c = (W.length : Int) := by
  induction W with
  | nil => simp [Lib.indexByte]
  | cons b W ih =>
    have h1 : (b == c) = false := by
      rw [beq_eq_false_iff_ne]; intro e; exact h (by simp [e])
    have h2 := ih (fun hm => h (List.mem_cons_of_mem _ hm))
    rw [List.cons_append]
    unfold Lib.indexByte
    have h3 : ((W.length : Int) == -1) = false := by simp
    simp [h1, h2, h3]

/-- ScanLines: a newline lies in the data. -/
theorem lines_nl (B o n c : Nat) (l m : List UInt8) (eof : Bool) (w : World) (hx : (l ++ 10 :: m).length = n) (hc : Holds w B o (l ++ 10 :: m)) (hl : (10 : UInt8) ∉ l) (hn : n ≤ 4294967296) (hnc : n ≤ c) :
    Calls Tryd.prog 20 #[.slice (some ⟨B, o, none⟩) n c, .bool eof] w fun e w' => e = .returned (.tuple #[.int .i64 ((l.length + 1 : Nat) : Int), .slice (some ⟨B, o, none⟩) (cr l).length c, .nilIface]) ∧ w = w' := by
  have hi := fun w hc => indexByte_nl B o n c (l ++ 10 :: m) w hx hc
  rw [indexByte_some l m 10 hl] at hi
  have hlen : l.length < n := by rw [← hx]; simp
  have hd : Holds w B o l := fun j h => by
    have := hc j (by simp; omega)
    rw [List.getElem_append_left h] at this
    exact this
  have HI := hi w hc
  have HD := dropCR_any B o l.length c l w rfl hd (by omega) (by omega)
  have HI' : Hid (Calls Tryd.prog 21 #[.slice (some ⟨B, o, none⟩) n c, .int .u8 10] w fun e w' => e = .returned (.int .i64 (l.length : Int)) ∧ w = w') := HI
  have HD' : Hid (Calls Tryd.prog 22 #[.slice (some ⟨B, o, none⟩) l.length c] w fun e w' => e = .returned (.slice (some ⟨B, o, none⟩) (cr l).length c) ∧ w = w') := HD
  clear HI HD hi hd hc hx
  have h0 : ((n : Int) == 0) = false := by rw [beq_eq_false_iff_ne]; omega
  cases eof
  all_goals
    go_enter Tryd.func20, Tryd.ntmps20
    go_wp2_with fail
    refine HI'.out.mono ?_
    rintro e w1 ⟨rfl, rfl⟩
    go_wp2_with fail
    refine HD'.out.mono ?_
    rintro e w1 ⟨rfl, rfl⟩
    go_wp2_with fail
    go_ret3
    exact ⟨by rw [Int.natCast_add]; rfl, rfl⟩

/-- ScanLines: no newline, and no more to come. -/
theorem lines_last (B o n c : Nat) (x : List UInt8) (w : World) (hx : x.length = n) (hc : Holds w B o x) (hl : (10 : UInt8) ∉ x) (h1 : 1 ≤ n) (hn : n ≤ 4294967296) (hnc : n ≤ c) :
    Calls Tryd.prog 20 #[.slice (some ⟨B, o, none⟩) n c, .bool true] w fun e w' => e = .returned (.tuple #[.int .i64 (n : Int), .slice (some ⟨B, o, none⟩) (cr x).length c, .nilIface]) ∧ w = w' := by
  have hi := indexByte_nl B o n c x w hx hc
  rw [indexByte_none x 10 hl] at hi
  have HI' : Hid (Calls Tryd.prog 21 #[.slice (some ⟨B, o, none⟩) n c, .int .u8 10] w fun e w' => e = .returned (.int .i64 (-1)) ∧ w = w') := hi
  have HD' : Hid (Calls Tryd.prog 22 #[.slice (some ⟨B, o, none⟩) n c] w fun e w' => e = .returned (.slice (some ⟨B, o, none⟩) (cr x).length c) ∧ w = w') := dropCR_any B o n c x w hx hc hn hnc
  clear hi hc hx
  have h0 : ((n : Int) == 0) = false := by rw [beq_eq_false_iff_ne]; omega
  go_enter Tryd.func20, Tryd.ntmps20
  go_wp2_with fail
  refine HI'.out.mono ?_
  rintro e w1 ⟨rfl, rfl⟩
  go_wp2_with fail
  refine HD'.out.mono ?_
  rintro e w1 ⟨rfl, rfl⟩
  go_wp2_with fail
  go_ret3
  exact ⟨rfl, rfl⟩

/-- ScanLines: no newline, more to come. -/
theorem lines_more (B o n c : Nat) (x : List UInt8) (w : World) (hx : x.length = n) (hc : Holds w B o x) (hl : (10 : UInt8) ∉ x) :
    Calls Tryd.prog 20 #[.slice (some ⟨B, o, none⟩) n c, .bool false] w fun e w' => e = .returned (.tuple #[.int .i64 0, .slice none 0 0, .nilIface]) ∧ w = w' := by
  have hi := indexByte_nl B o n c x w hx hc
  rw [indexByte_none x 10 hl] at hi
  have HI' : Hid (Calls Tryd.prog 21 #[.slice (some ⟨B, o, none⟩) n c, .int .u8 10] w fun e w' => e = .returned (.int .i64 (-1)) ∧ w = w') := hi
  clear hi hc hx
  go_enter Tryd.func20, Tryd.ntmps20
  go_wp2_with fail
  refine HI'.out.mono ?_
  rintro e w1 ⟨rfl, rfl⟩
  go_wp2_with fail
  go_ret3
  exact ⟨rfl, rfl⟩

/-- ScanLines: nothing left. -/
theorem lines_end (a : Option Addr) (c : Nat) (w : World) :
    Calls Tryd.prog 20 #[.slice a 0 c, .bool true] w fun e w' => e = .returned (.tuple #[.int .i64 0, .slice none 0 0, .nilIface]) ∧ w = w' := by
  go_enter Tryd.func20, Tryd.ntmps20
  go_wp2_with fail
  go_ret3
  exact ⟨rfl, rfl⟩

end Go.Proofs.Qxb6615772aDoor.fnDec
