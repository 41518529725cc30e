import Derived.Test.Qxb6000769aRows
import Derived.WalkKit
import Derived.WalkSpells
import Derived.WalkLawsBesides
import Derived.Below
import Derived.WalkSmall
import Derived.Outline
import Derived.LoopN
import Derived.Shelf.Bytes.SlCountOne
namespace Go.Proofs.Qxb6000769a.fnPositionRoundTripsToOffset
open Go.RowKit

/-- How many of the first k numbers are a new line's. -/
def cnt (zs : List Int) (k : Nat) : Nat := (zs.take k).countP (· == 10)

/-- The line that holds the place m begins at s. -/
structure Start (zs : List Int) (m s : Nat) : Prop where
  le : s ≤ m
  nl : s = 0 ∨ zs.getD (s - 1) 0 = 10
  plain : ∀ i, s ≤ i → i < m → zs.getD i 0 ≠ 10

theorem cnt_succ (zs : List Int) (k : Nat) (hk : k < zs.length) : cnt zs (k + 1) = cnt zs k + if zs.getD k 0 = 10 then 1 else 0 := by
  unfold cnt
  rw [List.take_add_one, List.countP_append]
  simp [List.getD, List.getElem?_eq_getElem hk, List.countP_cons]

theorem cnt_le (zs : List Int) : ∀ (k : Nat), cnt zs k ≤ k
  | 0 => by simp [cnt]
  | k + 1 => by
    unfold cnt
    exact Nat.le_trans List.countP_le_length (by simp; omega)

theorem cnt_mono (zs : List Int) (j k : Nat) (h : j ≤ k) (hk : k ≤ zs.length) : cnt zs j ≤ cnt zs k := by
  induction k with
  | zero => simp [show j = 0 by omega]
  | succ k ih =>
    by_cases e : j = k + 1
    · rw [e]; exact Nat.le_refl _
    · have := ih (by omega) (by omega)
      rw [cnt_succ zs k (by omega)]
      omega

theorem cnt_flat (zs : List Int) (s k : Nat) (h : s ≤ k) (hk : k ≤ zs.length) (hp : ∀ i, s ≤ i → i < k → zs.getD i 0 ≠ 10) : cnt zs k = cnt zs s := by
  induction k with
  | zero => simp [show s = 0 by omega]
  | succ k ih =>
    by_cases e : s = k + 1
    · rw [e]
    · rw [cnt_succ zs k (by omega), if_neg (hp k (by omega) (by omega)), ih (by omega) (by omega) (fun i h1 h2 => hp i h1 (by omega))]
      rfl

theorem lastIndex30 (b len cap : Nat) (zs : List Int) (w : World) (hbig : len ≤ 1048576) (hc : ∀ j, j < len → w.cell? ⟨b, j, none⟩ = some (.int .u8 (zs.getD j 0))) :
    Calls Try.prog 30 #[.slice (some ⟨b, 0, none⟩) len cap, .int .u8 10] w fun e w' => (∃ s : Nat, Start zs len s ∧ e = .returned (.int .i64 ((s : Int) - 1))) ∧ w' = w := by
  go_enter Try.func30, Try.ntmps30
  go_wp2_with fail
  go_loop [5] (fun i => ∃ k : Nat, k ≤ len ∧ i = .int .i64 ((k : Int) - 1) ∧ Hid (∀ j, k ≤ j → j < len → zs.getD j 0 ≠ 10)) (fun i => (intOf i + 1).toNat)
  case atStart => exact ⟨len, Nat.le_refl _, rfl, fun j h1 h2 => by omega⟩
  case round =>
    obtain ⟨k, hk, rfl, hp⟩ := hrel
    rcases Nat.eq_zero_or_pos k with h0 | h0
    · subst h0
      go_wp2_with fail
      go_ret
      exact ⟨⟨0, ⟨Nat.zero_le _, .inl rfl, fun i h1 h2 => hp.out i h1 h2⟩, rfl⟩, rfl⟩
    · obtain ⟨m, rfl⟩ : ∃ m, k = m + 1 := ⟨k - 1, by omega⟩
      have em : ((m + 1 : Nat) : Int) - 1 = (m : Int) := by omega
      simp only [em]
      have hcell := hc m (by omega)
      have hp' : Hid _ := hc
      clear hc
      generalize hv : zs.getD m 0 = z at hcell
      have hv : Hid (zs.getD m 0 = z) := hv
      by_cases hm : z = 10
      · subst hm
        go_wp2_with fail
        go_ret
        exact ⟨⟨m + 1, ⟨by omega, .inr hv.out, fun i h1 h2 => hp.out i h1 h2⟩, by rw [em]; rfl⟩, rfl⟩
      · have hm' : (z == 10) = false := by rw [beq_eq_false_iff_ne]; exact hm
        go_wp2_with fail
        refine ⟨⟨m, by omega, rfl, fun j h1 h2 => ?_⟩, by simp only [intOf]; omega⟩
        by_cases e : j = m
        · rw [e, hv.out]; exact hm
        · exact hp.out j (by omega) h2

theorem lastIndex30_nil (w : World) :
    Calls Try.prog 30 #[.slice none 0 0, .int .u8 10] w fun e w' => e = .returned (.int .i64 (-1)) ∧ w' = w := by
  go_enter Try.func30, Try.ntmps30
  go_wp2_with fail
  refine wp_loop_rounds 1 ?_
  rw [rounds_succ]
  go_wp2_with fail
  go_ret
  exact ⟨rfl, rfl⟩

theorem lastIndex26 (b len cap : Nat) (zs : List Int) (w : World) (hbig : len ≤ 1048576) (hc : ∀ j, j < len → w.cell? ⟨b, j, none⟩ = some (.int .u8 (zs.getD j 0))) :
    Calls Try.prog 26 #[.slice (some ⟨b, 0, none⟩) len cap, .int .u8 10] w fun e w' => (∃ s : Nat, Start zs len s ∧ e = .returned (.int .i64 ((s : Int) - 1))) ∧ w' = w := by
  go_enter Try.func26, Try.ntmps26
  go_wp2_with fail
  refine (lastIndex30 b len cap zs w hbig hc).mono ?_
  rintro e w1 ⟨⟨s, hs, rfl⟩, rfl⟩
  go_wp2_with fail
  go_ret
  exact ⟨⟨s, hs, rfl⟩, rfl⟩

theorem lastIndex26_nil (w : World) :
    Calls Try.prog 26 #[.slice none 0 0, .int .u8 10] w fun e w' => e = .returned (.int .i64 (-1)) ∧ w' = w := by
  go_enter Try.func26, Try.ntmps26
  go_wp2_with fail
  refine (lastIndex30_nil _).mono ?_
  rintro e w1 ⟨rfl, rfl⟩
  go_wp2_with fail
  go_ret
  exact ⟨rfl, rfl⟩

theorem lineStart_one (v : Value) (w : World) :
    Calls Try.prog 20 #[v, .int .i64 1] w fun e w' => e = .returned (.tuple #[.int .i64 0, .bool true]) ∧ w' = w := by
  go_enter Try.func20, Try.ntmps20
  go_wp2_with fail
  go_ret2
  exact ⟨rfl, rfl⟩

theorem lineStart_any (b len cap m s : Nat) (zs : List Int) (w : World) (hz : len = zs.length) (hbig : len ≤ 1048576) (hm : m ≤ len) (hs : Start zs m s)
    (hc : ∀ j, j < len → w.cell? ⟨b, j, none⟩ = some (.int .u8 (zs.getD j 0))) :
    Calls Try.prog 20 #[.slice (some ⟨b, 0, none⟩) len cap, .int .i64 ((cnt zs m : Int) + 1)] w fun e w' => e = .returned (.tuple #[.int .i64 (s : Int), .bool true]) ∧ w' = w := by
  have hcm := cnt_le zs m
  have hflat := cnt_flat zs s m hs.le (by omega) hs.plain
  by_cases h0 : s = 0
  · subst h0
    have : cnt zs m = 0 := by rw [hflat]; simp [cnt]
    rw [this]
    exact lineStart_one _ w
  · have hnl : zs.getD (s - 1) 0 = 10 := by
      rcases hs.nl with h | h
      · exact absurd h h0
      · exact h
    have hsm := hs.le
    have hcs : cnt zs s = cnt zs (s - 1) + 1 := by
      have := cnt_succ zs (s - 1) (by omega)
      rw [show s - 1 + 1 = s by omega, if_pos hnl] at this
      exact this
    have hn1 : (((cnt zs m : Int) + 1) == 1) = false := by rw [beq_eq_false_iff_ne]; omega
    have M : Hid (cnt zs m = cnt zs s) := hflat
    have N : Hid (zs.getD (s - 1) 0 = 10) := hnl
    have CS : Hid (cnt zs s = cnt zs (s - 1) + 1) := hcs
    have C : Hid (∀ j, j < len → w.cell? ⟨b, j, none⟩ = some (.int .u8 (zs.getD j 0))) := hc
    clear hflat hnl hcs hc hs
    go_enter Try.func20, Try.ntmps20
    go_wp2_with fail
    go_loop [6, 7] (fun seen i => ∃ k : Nat, k < s ∧ seen = .int .i64 ((cnt zs k : Int) + 1) ∧ i = .int .i64 (k : Int)) (fun _ i => s - (intOf i).toNat)
    case atStart => exact ⟨0, by omega, by simp [cnt], rfl⟩
    case round =>
      obtain ⟨k, hk, rfl, rfl⟩ := hrel
      have hcell := C.out k (by omega)
      have hck := cnt_le zs k
      generalize hv : zs.getD k 0 = z at hcell
      have hv : Hid (zs.getD k 0 = z) := hv
      have hkc := cnt_succ zs k (by omega)
      rw [hv.out] at hkc
      by_cases hm : z = 10
      · subst hm
        rw [if_pos rfl] at hkc
        by_cases hl : k + 1 = s
        · have he : ((cnt zs k : Int) + 1 + 1 == (cnt zs m : Int) + 1) = true := by
            rw [beq_iff_eq, M.out, ← hl, hkc]; omega
          clear hkc
          go_wp2_with fail
          go_ret2
          exact ⟨by rw [← hl]; rfl, rfl⟩
        · have hmo := cnt_mono zs (k + 1) (s - 1) (by omega) (by omega)
          have he : ((cnt zs k : Int) + 1 + 1 == (cnt zs m : Int) + 1) = false := by
            rw [beq_eq_false_iff_ne, M.out, CS.out]; omega
          have hkc : Hid _ := hkc
          clear hmo
          go_wp2_with fail
          refine ⟨⟨k + 1, by omega, by rw [hkc.out]; rfl, rfl⟩, by simp only [intOf]; omega⟩
      · rw [if_neg hm] at hkc
        have hkc : Hid _ := hkc
        have hm' : (z == 10) = false := by rw [beq_eq_false_iff_ne]; exact hm
        have hl : k + 1 ≠ s := by
          intro e
          apply hm
          rw [← hv.out, show k = s - 1 by omega]
          exact N.out
        go_wp2_with fail
        refine ⟨⟨k + 1, by omega, by rw [hkc.out]; rfl, rfl⟩, by simp only [intOf]; omega⟩
end Go.Proofs.Qxb6000769a.fnPositionRoundTripsToOffset
