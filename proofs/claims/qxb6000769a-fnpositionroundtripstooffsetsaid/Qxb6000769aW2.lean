import Derived.Test.Qxb6000769aW1
namespace Go.Proofs.Qxb6000769a.fnPositionRoundTripsToOffset
open Go.RowKit

theorem count_eq : ∀ (xs : List Int), (∀ x ∈ xs, 0 ≤ x ∧ x < 256) → Lib.countByte (Lib.bytesOf xs) 10 = xs.countP (· == 10)
  | [], _ => rfl
  | x :: xs, h => by
    have ih := count_eq xs fun y hy => h y (List.mem_cons_of_mem _ hy)
    have hx := h x (List.mem_cons_self ..)
    have e : (UInt8.ofNat x.toNat == 10) = (x == 10) := by
      by_cases hv : x = 10
      · subst hv; rfl
      · rw [show (x == 10) = false from by rw [beq_eq_false_iff_ne]; exact hv, beq_eq_false_iff_ne]
        intro h2
        have h3 : (UInt8.ofNat x.toNat).toNat = x.toNat % 256 := by simp
        rw [h2, Nat.mod_eq_of_lt (by omega)] at h3
        have : (10 : UInt8).toNat = 10 := rfl
        omega
    unfold Lib.countByte Lib.bytesOf at ih ⊢
    rw [List.map_cons, List.count_cons, List.countP_cons, ih, e]

theorem call28 (b n cap : Nat) (zs : List Int) (w : World) (hn : n ≤ zs.length) (hr : ∀ x ∈ zs, 0 ≤ x ∧ x < 256) (hc : ∀ j, j < n → w.cell? ⟨b, j, none⟩ = some (.int .u8 (zs.getD j 0))) :
    (callFunc 28 #[.slice (some ⟨b, 0, none⟩) n cap, .int .u8 10]).run Try.prog w = .ok (.value (.int .i64 (cnt zs n : Int))) w := by
  rw [run_callFunc_extern Try.func28 (by kernel_rfl) (by kernel_rfl) (by kernel_rfl) (e := Extern.BytealgCount.count) (by kernel_rfl),
    Lib.run_countSlice w b 0 n cap (zs.take n) (by simp; omega) (fun i hi => by
      rw [Nat.zero_add, hc i hi]
      simp [List.getD, hi]) 10]
  have := count_eq (zs.take n) fun x hx => hr x (List.mem_of_mem_take hx)
  simp only [Result.andThen]
  rw [show (10 : Int).toNat.toUInt8 = 10 from rfl, this]
  rfl

theorem call28_nil (w : World) : (callFunc 28 #[.slice none 0 0, .int .u8 10]).run Try.prog w = .ok (.value (.int .i64 0)) w := by
  rw [run_callFunc_extern Try.func28 (by kernel_rfl) (by kernel_rfl) (by kernel_rfl) (e := Extern.BytealgCount.count) (by kernel_rfl), Lib.run_countNil]
  rfl

theorem count25 (b n cap b2 : Nat) (zs : List Int) (w : World) (hn : n ≤ zs.length) (hr : ∀ x ∈ zs, 0 ≤ x ∧ x < 256) (hc : ∀ j, j < n → w.cell? ⟨b, j, none⟩ = some (.int .u8 (zs.getD j 0)))
    (h2 : w.cell? ⟨b2, 0, none⟩ = some (.int .u8 10)) :
    Calls Try.prog 25 #[.slice (some ⟨b, 0, none⟩) n cap, .slice (some ⟨b2, 0, none⟩) 1 1] w fun e w' => e = .returned (.int .i64 (cnt zs n : Int)) ∧ w' = w := by
  have K := call28 b n cap zs w hn hr hc
  clear hc hr hn
  generalize cnt zs n = N at *
  go_enter Try.func25, Try.ntmps25
  go_wp2_with fail
  go_ret
  exact ⟨rfl, rfl⟩

theorem count25_nil (b2 : Nat) (w : World) (h2 : w.cell? ⟨b2, 0, none⟩ = some (.int .u8 10)) :
    Calls Try.prog 25 #[.slice none 0 0, .slice (some ⟨b2, 0, none⟩) 1 1] w fun e w' => e = .returned (.int .i64 0) ∧ w' = w := by
  have K := call28_nil w
  go_enter Try.func25, Try.ntmps25
  go_wp2_with fail
  go_ret
  exact ⟨rfl, rfl⟩

theorem zzBytes_ok (a0 : Option Addr) (len cap : Nat) (x : Int) (w : World) (h : len ≤ 1048576) :
    Calls Try.prog 19 #[.slice a0 len cap, .int .i64 x] w fun e w' => e = .returned (.bool true) ∧ w' = w := by
  go_enter Try.func19, Try.ntmps19
  go_wp2_with fail
  go_ret
  exact ⟨rfl, rfl⟩

theorem zzBytes_big (a0 : Option Addr) (len cap : Nat) (x : Int) (w : World) (h : 1048576 < len) :
    Calls Try.prog 19 #[.slice a0 len cap, .int .i64 x] w fun e w' => e = .returned (.bool false) ∧ w' = w := by
  go_enter Try.func19, Try.ntmps19
  go_wp2_with fail
  go_ret
  exact ⟨rfl, rfl⟩
end Go.Proofs.Qxb6000769a.fnPositionRoundTripsToOffset
