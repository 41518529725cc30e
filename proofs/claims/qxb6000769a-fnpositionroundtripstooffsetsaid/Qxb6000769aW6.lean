import Derived.Test.Qxb6000769aW5
namespace Go.Proofs.Qxb6000769a.fnPositionRoundTripsToOffset
open Go.RowKit

set_option maxHeartbeats 400000 in
theorem walk_row (x : Addr) (len cap m : Nat) (off : Int) (zs : List Int) (w : World) (hz : zs.length = len) (hbig : len ≤ 1048576) (h0 : 0 ≤ off) (h1 : off ≤ 2147483647)
    (hm : (off = (m : Int) ∧ m < len) ∨ ((len : Int) ≤ off ∧ m = len))
    (hr : ∀ x ∈ zs, 0 ≤ x ∧ x < 256) (hc : ∀ j, j < len → w.cell? (x.add j) = some (.int .u8 (zs.getD j 0))) :
    Calls Try.prog 8 #[.slice (some x) len cap, .int .i64 off] w fun e w' => e = .returned (.bool true) ∧ Below w.heap.size w w' := by
  have h0' : decide (off < 0) = false := by simp; omega
  have h1' : decide (2147483647 < off) = false := by simp; omega
  have hmk := run_mk len hbig w
  have hcp := fun ty => run_cp w ty x len cap zs hz hc
  have hml : m ≤ len := by omega
  have hcell : ∀ j, j < len → (copied w zs).cell? ⟨w.heap.size, j, none⟩ = some (.int .u8 (zs.getD j 0)) := fun j hj => copied_cell w zs j (by omega)
  have Z : Hid _ := zzPosition_any w.heap.size len len m off zs (copied w zs) hz (Nat.le_refl _) hbig (by omega) hml (copied_size w zs) hr hcell
  have hw0 := copied_below w zs
  have hsz := copied_size w zs
  have hsub : Hid (∀ w1, Below (copied w zs).heap.size (copied w zs) w1 → ∀ j, j < len → w1.cell? ⟨w.heap.size, j, none⟩ = some (.int .u8 (zs.getD j 0))) := fun w1 hw1 j hj => by
    rw [hw1.cell hsz]; exact hcell j hj
  have hgrow : Hid (∀ w1, Below (copied w zs).heap.size (copied w zs) w1 → Below w.heap.size w w1) := fun w1 hw1 => hw0.trans (hw1.mono (Nat.le_of_lt hsz))
  have hcm := cnt_le zs m
  have hz : Hid (len = zs.length) := hz.symm
  clear hc hcell hw0 hsz hr
  go_enter Try.func8, Try.ntmps8
  go_wp2_with fail
  refine (zzBytes_ok (some x) len cap off w hbig).mono ?_
  rintro e w1 ⟨rfl, hw⟩
  obtain rfl : w = w1 := hw.symm
  clear hw
  go_wp2_with fail
  refine Calls.mono Z.out ?_
  rintro e w2 ⟨⟨s, hs, rfl⟩, hw2⟩
  have hsm := hs.le
  have L : Hid (Calls Try.prog 20 #[.slice (some ⟨w.heap.size, 0, none⟩) len len, .int .i64 (1 + (cnt zs m : Int))] w2 fun e w' => e = .returned (.tuple #[.int .i64 (s : Int), .bool true]) ∧ w' = w2) := by
    have := lineStart_any w.heap.size len len m s zs w2 hz.out hbig hml hs (hsub.out w2 hw2)
    rw [show (cnt zs m : Int) + 1 = 1 + (cnt zs m : Int) by omega] at this
    exact this
  have S : Hid (Start zs m s) := hs
  have B2 : Hid _ := hgrow.out w2 hw2
  have C2 : Hid (∀ j, j < len → w2.cell? ⟨w.heap.size, j, none⟩ = some (.int .u8 (zs.getD j 0))) := hsub.out w2 hw2
  clear hmk hcp Z hsub hgrow hz hw2 hs h0' h1'
  go_wp2_with fail
  refine Calls.mono L.out ?_
  rintro e w3 ⟨rfl, hw⟩
  obtain rfl : w2 = w3 := hw.symm
  clear hw L
  have hgot : (s : Int) + (1 + (m : Int) - (s : Int)) - 1 = (m : Int) := by omega
  rcases hm with ⟨rfl, hlt⟩ | ⟨hle, rfl⟩
  · have hlt' : (m : Int) < (len : Int) := by omega
    go_wp2_with fail
    clear hgot
    go_loop [12] (fun i => ∃ k : Nat, s ≤ k ∧ k ≤ m ∧ i = .int .i64 (k : Int)) (fun i => m - (intOf i).toNat)
    case atStart => exact ⟨s, Nat.le_refl _, hsm, rfl⟩
    case round =>
      obtain ⟨k, hk, hkm, rfl⟩ := hrel
      rcases Nat.lt_or_ge k m with hlm | hge
      · have hkt : (k : Int) < (m : Int) := by omega
        have hcell := C2.out k (by omega)
        have hne := S.out.plain k hk hlm
        generalize zs.getD k 0 = z at hcell hne
        have hne' : (z == 10) = false := by rw [beq_eq_false_iff_ne]; exact hne
        go_wp2_with fail
        exact ⟨⟨k + 1, by omega, by omega, rfl⟩, by simp only [intOf]; omega⟩
      · have hkt : decide ((k : Int) < (m : Int)) = false := by simp; omega
        go_wp2_with fail
        go_ret
        exact ⟨rfl, B2.out⟩
  · have hlt' : decide (off < (m : Int)) = false := by simp; omega
    go_wp2_with fail
    clear hgot
    go_loop [12] (fun i => ∃ k : Nat, s ≤ k ∧ k ≤ m ∧ i = .int .i64 (k : Int)) (fun i => m - (intOf i).toNat)
    case atStart => exact ⟨s, Nat.le_refl _, hsm, rfl⟩
    case round =>
      obtain ⟨k, hk, hkm, rfl⟩ := hrel
      rcases Nat.lt_or_ge k m with hlm | hge
      · have hkt : (k : Int) < (m : Int) := by omega
        have hcell := C2.out k (by omega)
        have hne := S.out.plain k hk hlm
        generalize zs.getD k 0 = z at hcell hne
        have hne' : (z == 10) = false := by rw [beq_eq_false_iff_ne]; exact hne
        go_wp2_with fail
        exact ⟨⟨k + 1, by omega, by omega, rfl⟩, by simp only [intOf]; omega⟩
      · have hkt : decide ((k : Int) < (m : Int)) = false := by simp; omega
        go_wp2_with fail
        go_ret
        exact ⟨rfl, B2.out⟩

/-- A slice of integers that came in: nil, or a row of 'cap' cells, the numbers 'zs', each fitting its kind. -/
def IsRow (k : IntKind) (w : World) (a : Option Addr) (len cap : Nat) (zs : List Int) : Prop :=
  (a = none ∧ len = 0 ∧ cap = 0 ∧ zs = []) ∨
  ∃ x, a = some x ∧ len ≤ cap ∧ cap ≤ maxLen ∧ zs.length = cap ∧ (∀ i, i < zs.length → w.cell? (x.add i) = some (.int k (zs.getD i 0))) ∧ ∀ n ∈ zs, (Lit.int k n).wf = true

theorem byte_wf (n : Int) (h : (Lit.int .u8 n).wf = true) : 0 ≤ n ∧ n < 256 := by
  have h2 : IntKind.u8.min ≤ n ∧ n ≤ IntKind.u8.max := by simpa [Lit.wf] using h
  have e1 : IntKind.u8.min = 0 := by decide
  have e2 : IntKind.u8.max = 255 := by decide
  omega

theorem walk (a0 : Option Addr) (len0 cap0 : Nat) (z0 : List Int) (a1 : Int) (w : World) (w0 : IsRow .u8 w a0 len0 cap0 z0) :
    Calls Try.prog 8 #[.slice a0 len0 cap0, .int .i64 a1] w fun e w' => e = .returned (.bool true) ∧ Below w.heap.size w w' := by
  rcases Nat.lt_or_ge 1048576 len0 with hb | hb
  · exact walk_big a0 len0 cap0 a1 w hb
  by_cases ho : a1 < 0 ∨ 2147483647 < a1
  · exact walk_out a0 len0 cap0 a1 w hb ho
  rcases w0 with ⟨rfl, rfl, rfl, rfl⟩ | ⟨x, rfl, hl, _, hz, hc, hw⟩
  · exact walk_nil a1 w (by omega) (by omega)
  · have hlen : (z0.take len0).length = len0 := by simp; omega
    have hr : ∀ y ∈ z0.take len0, 0 ≤ y ∧ y < 256 := fun y hy => byte_wf y (hw y (List.mem_of_mem_take hy))
    have hcc : ∀ j, j < len0 → w.cell? (x.add j) = some (.int .u8 ((z0.take len0).getD j 0)) := fun j hj => by
      rw [hc j (by omega)]
      simp [List.getD, hj]
    rcases Int.lt_or_le a1 (len0 : Int) with h | h
    · exact walk_row x len0 cap0 a1.toNat a1 (z0.take len0) w hlen hb (by omega) (by omega) (.inl ⟨by omega, by omega⟩) hr hcc
    · exact walk_row x len0 cap0 len0 a1 (z0.take len0) w hlen hb (by omega) (by omega) (.inr ⟨h, rfl⟩) hr hcc
end Go.Proofs.Qxb6000769a.fnPositionRoundTripsToOffset
