import Derived.Test.Qxb6000769aW2
import Derived.Lib.SlBytesConst
namespace Go.Proofs.Qxb6000769a.fnPositionRoundTripsToOffset
open Go.RowKit

theorem conv27 (w : World) : (convert 27 27 (.slice (some ⟨w.heap.size, 0, none⟩) 1 1)).run Try.prog (w.alloc (.cells #[.int .u8 10] 5)) =
    .ok (.slice (some ⟨w.heap.size, 0, none⟩) 1 1) (w.alloc (.cells #[.int .u8 10] 5 (1, 2))) :=
  Lib.run_convert_bytes_const w 27 5 #[.int .u8 10] 1 1 Try.underlying27 Try.underlying5

theorem marked_cell (w : World) : (w.alloc (.cells #[.int .u8 10] 5 (1, 2))).cell? ⟨w.heap.size, 0, none⟩ = some (.int .u8 10) := by
  have h : (w.alloc (.cells #[.int .u8 10] 5 (1, 2))).heap[w.heap.size]? = some (.cells #[.int .u8 10] 5 (1, 2)) := by
    show (w.heap.push _)[w.heap.size]? = _
    simp
  unfold World.cell?
  rw [h]
  rfl

theorem position_any (b len cap m : Nat) (off : Int) (zs : List Int) (w : World) (hz : zs.length = len) (hcap : len ≤ cap) (hbig : len ≤ 1048576)
    (hm : min off (len : Int) = (m : Int)) (hml : m ≤ len)
    (hb : b < w.heap.size) (hr : ∀ x ∈ zs, 0 ≤ x ∧ x < 256) (hc : ∀ j, j < len → w.cell? ⟨b, j, none⟩ = some (.int .u8 (zs.getD j 0))) :
    Calls Try.prog 24 #[.slice (some ⟨b, 0, none⟩) len cap, .int .i64 off] w fun e w' =>
      (∃ s : Nat, Start zs m s ∧ e = .returned (.tuple #[.int .i64 (1 + (cnt zs m : Int)), .int .i64 (1 + (m : Int) - (s : Int))])) ∧ Below w.heap.size w w' := by
  have hmc : m ≤ cap := by omega
  have cv := conv27 w
  have K := count25 b m cap w.heap.size zs (w.alloc (Obj.cells #[Value.int IntKind.u8 10] 5 (1, 2))) (by omega) hr (fun j hj => by
    rw [World.cell?_of_block (Below.heap_alloc w _ b hb)]; exact hc j (by omega)) (marked_cell w)
  have L := lastIndex26 b m cap zs (w.alloc (Obj.cells #[Value.int IntKind.u8 10] 5 (1, 2))) (by omega) (fun j hj => by
    rw [World.cell?_of_block (Below.heap_alloc w _ b hb)]; exact hc j (by omega))
  have K : Hid _ := K
  have L : Hid _ := L
  have hcm := cnt_le zs m
  clear hc hr hz
  go_enter Try.func24, Try.ntmps24
  go_wp2_with fail
  refine Calls.mono K.out ?_
  rintro e w1 ⟨rfl, rfl⟩
  go_wp2_with fail
  refine Calls.mono L.out ?_
  rintro e w1 ⟨⟨s, hs, rfl⟩, rfl⟩
  have hsm := hs.le
  go_wp2_with fail
  go_ret2
  exact ⟨⟨s, hs, rfl⟩, (Below.refl _ w).alloc (Nat.le_refl _) _⟩

theorem position_nil (off : Int) (w : World) (h0 : 0 ≤ off) :
    Calls Try.prog 24 #[.slice none 0 0, .int .i64 off] w fun e w' => e = .returned (.tuple #[.int .i64 1, .int .i64 1]) ∧ Below w.heap.size w w' := by
  have hm : min off 0 = 0 := by omega
  have cv := conv27 w
  have K : Hid _ := count25_nil w.heap.size (w.alloc (Obj.cells #[Value.int IntKind.u8 10] 5 (1, 2))) (marked_cell w)
  have L : Hid _ := lastIndex26_nil (w.alloc (Obj.cells #[Value.int IntKind.u8 10] 5 (1, 2)))
  go_enter Try.func24, Try.ntmps24
  go_wp2_with fail
  refine Calls.mono K.out ?_
  rintro e w1 ⟨rfl, rfl⟩
  go_wp2_with fail
  refine Calls.mono L.out ?_
  rintro e w1 ⟨rfl, rfl⟩
  go_wp2_with fail
  go_ret2
  exact ⟨rfl, (Below.refl _ w).alloc (Nat.le_refl _) _⟩

theorem zzPosition_any (b len cap m : Nat) (off : Int) (zs : List Int) (w : World) (hz : zs.length = len) (hcap : len ≤ cap) (hbig : len ≤ 1048576)
    (hm : min off (len : Int) = (m : Int)) (hml : m ≤ len)
    (hb : b < w.heap.size) (hr : ∀ x ∈ zs, 0 ≤ x ∧ x < 256) (hc : ∀ j, j < len → w.cell? ⟨b, j, none⟩ = some (.int .u8 (zs.getD j 0))) :
    Calls Try.prog 17 #[.slice (some ⟨b, 0, none⟩) len cap, .int .i64 off] w fun e w' =>
      (∃ s : Nat, Start zs m s ∧ e = .returned (.tuple #[.int .i64 (1 + (cnt zs m : Int)), .int .i64 (1 + (m : Int) - (s : Int))])) ∧ Below w.heap.size w w' := by
  go_enter Try.func17, Try.ntmps17
  go_wp2_with fail
  refine (position_any b len cap m off zs w hz hcap hbig hm hml hb hr hc).mono ?_
  rintro e w1 ⟨⟨s, hs, rfl⟩, hw⟩
  go_wp2_with fail
  go_ret2
  exact ⟨⟨s, hs, rfl⟩, hw⟩

theorem zzPosition_nil (off : Int) (w : World) (h0 : 0 ≤ off) :
    Calls Try.prog 17 #[.slice none 0 0, .int .i64 off] w fun e w' => e = .returned (.tuple #[.int .i64 1, .int .i64 1]) ∧ Below w.heap.size w w' := by
  go_enter Try.func17, Try.ntmps17
  go_wp2_with fail
  refine (position_nil off w h0).mono ?_
  rintro e w1 ⟨rfl, hw⟩
  go_wp2_with fail
  go_ret2
  exact ⟨rfl, hw⟩
end Go.Proofs.Qxb6000769a.fnPositionRoundTripsToOffset
