import Derived.Test.Qxb6000769aW3
import Derived.Laws.MakeOwn
import Derived.Laws.CopyRow
import Derived.Laws.CopyOwn
import Derived.Laws.Tables
namespace Go.Proofs.Qxb6000769a.fnPositionRoundTripsToOffset
open Go.RowKit

/-- A row's cells. -/
def rc (zs : List Int) : List Value := zs.map fun z => .int .u8 z

theorem rc_length (zs : List Int) : (rc zs).length = zs.length := by simp [rc]

theorem info5 : ∃ i, Try.prog.info? 5 = some i ∧ i.zero = some (.int .u8 0) ∧ i.size = 1 ∧ i.bytes = 1 := by
  have h : (Try.prog.info? 5).map (fun i => (i.zero, i.size, i.bytes)) = some (some (.int .u8 0), 1, 1) := by kernel_rfl
  cases hi : Try.prog.info? 5 with
  | none => simp [hi] at h
  | some i =>
    simp [hi] at h
    exact ⟨i, rfl, h.1, h.2.1, h.2.2⟩

theorem size5 : (Try.prog.info? 5).map (·.size) = some 1 := by
  obtain ⟨i, hi, _, hs, _⟩ := info5
  rw [hi, Option.map_some, hs]

theorem run_mk (n : Nat) (hn : n ≤ 1048576) (w : World) : (Instr.makeSlice 27 (.int .i64 (n : Int)) (.int .i64 (n : Int))).run Try.prog w =
    .ok (.slice (some ⟨w.heap.size, 0, none⟩) n n) (w.alloc (.cells (madeCells #[.int .u8 0] n) 5)) := by
  obtain ⟨i, hi, hz, hs, hb⟩ := info5
  rw [run_make w 27 5 i (.int .u8 0) Try.underlying27 hi hz .i64 .i64 n n (by omega) (by omega) (by rw [hb]; omega) (by omega)]
  rw [Int.toNat_natCast, hs, Nat.mul_one]
  rfl

/-- The copy's world: the new row holds the data. -/
def copied (w : World) (zs : List Int) : World := (w.alloc (.cells (madeCells #[.int .u8 0] zs.length) 5)).setRow w.heap.size (rc zs).toArray

theorem made_heap (w : World) (n : Nat) : (w.alloc (.cells (madeCells #[.int .u8 0] n) 5)).heap[w.heap.size]? = some (.cells (madeCells #[.int .u8 0] n) 5 (0, 0)) := by
  show (w.heap.push _)[w.heap.size]? = _
  simp

theorem made_size (n : Nat) : (madeCells #[.int .u8 0] n).size = n := by simp [madeCells]

theorem run_cp (w : World) (ty : TypeId) (x : Addr) (n cap : Nat) (zs : List Int) (hz : zs.length = n)
    (hc : ∀ j, j < n → w.cell? (x.add j) = some (.int .u8 (zs.getD j 0))) :
    (Builtin.copy_ #[27, 27] ty #[.slice (some ⟨w.heap.size, 0, none⟩) n n, .slice (some x) n cap]).run Try.prog (w.alloc (.cells (madeCells #[.int .u8 0] n) 5)) = .ok (goInt (n : Int)) (copied w zs) := by
  subst hz
  rw [run_copy_row (P := Try.prog) _ 27 27 ty 5 w.heap.size 0 zs.length zs.length x zs.length cap _ 5 (rc zs) Try.underlying27 size5 (made_heap w _) (by rw [rc_length]; exact (Nat.min_self _).symm) ?_ ?_ ?_]
  · rw [rc_length]
    unfold copied
    congr 3
    rw [List.take_zero, List.nil_append, Nat.zero_add, List.drop_of_length_le (by rw [Array.length_toList, made_size]; exact Nat.le_refl _), List.append_nil]
  · intro j v hj
    have hjl : j < (rc zs).length := (List.getElem?_eq_some_iff.1 hj).1
    rw [rc_length] at hjl
    rw [Lib.cell?_alloc_marked _ (hc j hjl), ← hj]
    simp [rc, List.getD, hjl]
  · rw [rc_length, made_size]; omega
  · intro v hv
    obtain ⟨z, _, rfl⟩ := List.mem_map.1 hv
    rfl

theorem copied_cell (w : World) (zs : List Int) (j : Nat) (hj : j < zs.length) : (copied w zs).cell? ⟨w.heap.size, j, none⟩ = some (.int .u8 (zs.getD j 0)) := by
  unfold copied
  rw [cell_setRow_same _ _ _ _ _ _ _ (made_heap w _)]
  simp [rc, List.getD, hj]

theorem copied_below (w : World) (zs : List Int) : Below w.heap.size w (copied w zs) :=
  below_setRow ((Below.refl _ w).alloc (Nat.le_refl _) _) (Nat.le_refl _) _

theorem copied_size (w : World) (zs : List Int) : w.heap.size < (copied w zs).heap.size := by
  unfold copied
  rw [setRow_size]
  simp

end Go.Proofs.Qxb6000769a.fnPositionRoundTripsToOffset
