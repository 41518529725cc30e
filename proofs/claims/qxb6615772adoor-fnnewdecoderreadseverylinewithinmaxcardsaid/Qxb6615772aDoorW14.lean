import Derived.Test.Qxb6615772aDoorW13
namespace Go.Proofs.Qxb6615772aDoor.fnDec
open Go.RowKit

set_option maxHeartbeats 400000 in
theorem bytes_any (s : ByteArray) (mx : Int) (hs : s.size ≤ maxLen) (w : World) :
    Calls Tryd.prog 4 #[.string s, .int .i64 mx] w fun e w' => e = .returned (.bool (decide (s.size ≤ 1048576))) ∧ w = w' := by
  unfold maxLen at hs
  by_cases h : s.size ≤ 1048576
  · have h1 : ¬ (1048576 : Int) < (s.size : Int) := by omega
    go_enter Tryd.func4, Tryd.ntmps4
    go_wp2
    go_ret
    exact ⟨by simp, rfl⟩
  · have h1 : (1048576 : Int) < (s.size : Int) := by omega
    go_enter Tryd.func4, Tryd.ntmps4
    go_wp2
    go_ret
    exact ⟨by simp [h], rfl⟩

section
variable {r : Nat} {S : List UInt8} {mx : Int} {w0 w : World} {p k : Nat} {aE aT : Addr} {pos : Nat} {tok buf : Value} {st en : Nat} {err : Value}

theorem Core.dcells (h : Core r S mx w0 w pos tok buf st en err) : w.cell? ⟨r + 2, 0, none⟩ = some (.pointer (some ⟨r + 1, 0, none⟩)) ∧ w.cell? ⟨r + 2, 1, none⟩ = some (.int .i64 mx) ∧ w.cell? ⟨r + 2, 2, none⟩ = some (.int .i64 0) := by
  refine ⟨?_, ?_, ?_⟩ <;> simp [World.cell?, h.dc]

theorem decMax (h : Core r S mx w0 w pos tok buf st en err) : Calls Tryd.prog 6 #[.pointer (some ⟨r + 2, 0, none⟩)] w fun e w' => e = .returned (.int .i64 mx) ∧ w = w' := by
  obtain ⟨d0, d1, d2⟩ := h.dcells
  clear h
  go_enter Tryd.func6, Tryd.ntmps6
  go_wp2
  go_ret
  exact ⟨rfl, rfl⟩

theorem decLine (h : Core r S mx w0 w pos tok buf st en err) : Calls Tryd.prog 7 #[.pointer (some ⟨r + 2, 0, none⟩)] w fun e w' => e = .returned (.int .i64 0) ∧ w = w' := by
  obtain ⟨d0, d1, d2⟩ := h.dcells
  clear h
  go_enter Tryd.func7, Tryd.ntmps7
  go_wp2
  go_ret
  exact ⟨rfl, rfl⟩

theorem decScan (hS : S.length ≤ 1048576) (hr : 4 < r) (hE : w0.cell? ⟨4, 0, none⟩ = some (.iface 58 (.pointer (some aE)))) (hT : w0.cell? ⟨1, 0, none⟩ = some (.iface 58 (.pointer (some aT)))) (hp : p ≤ S.length)
    (hI : Inv r S mx w0 (.iface 58 (.pointer (some aE))) p k w) :
    Calls Tryd.prog 8 #[.pointer (some ⟨r + 2, 0, none⟩)] w fun e w' => ∃ b, e = .returned (.bool b) ∧ ScanPost r S mx w0 (.iface 58 (.pointer (some aE))) (.iface 58 (.pointer (some aT))) p b w' := by
  have HS := hide (scan_any hS hr hE hT hp hI)
  obtain ⟨_, _, _, _, _, _, hC, -⟩ := hI
  obtain ⟨d0, d1, d2⟩ := hC.dcells
  clear hC hE hT
  go_enter Tryd.func8, Tryd.ntmps8
  go_wp2_with fail
  refine HS.out.mono ?_
  rintro e w1 ⟨b, rfl, hs⟩
  have H := hide hs
  clear hs HS
  go_wp2
  go_ret
  exact ⟨b, rfl, H.out⟩

theorem decErr_eof (hr : 4 < r) (hE : w0.cell? ⟨4, 0, none⟩ = some (.iface 58 (.pointer (some aE)))) (h : Core r S mx w0 w pos tok buf st en (.iface 58 (.pointer (some aE)))) :
    Calls Tryd.prog 9 #[.pointer (some ⟨r + 2, 0, none⟩)] w fun e w' => e = .returned .nilIface ∧ Below r w0 w' := by
  obtain ⟨d0, d1, d2⟩ := h.dcells
  have hg : w.cell? ⟨4, 0, none⟩ = some (.iface 58 (.pointer (some aE))) := by rw [h.below.cell (p := ⟨4, 0, none⟩) hr]; exact hE
  have HE := hide (err_eof (r + 1) aE w h.cells.2.2.2.2.2.2.2.1 hg)
  have HB := hide h.below
  clear h hE hg
  go_enter Tryd.func9, Tryd.ntmps9
  go_wp2_with fail
  refine HE.out.mono ?_
  rintro e w1 ⟨rfl, n, rfl⟩
  go_wp2
  go_ret
  exact ⟨rfl, below_drewN HB.out n⟩

theorem decErr_long (hr : 4 < r) (hE : w0.cell? ⟨4, 0, none⟩ = some (.iface 58 (.pointer (some aE)))) (hne : aT ≠ aE) (ca cb : Array Value) (ta tb : TypeId) (hb : w0.heap[aT.block]? = some (.cells cb tb (0, 0))) (ha : w0.heap[aE.block]? = some (.cells ca ta (0, 0))) (hlb : aT.block < r) (hla : aE.block < r)
    (h : Core r S mx w0 w pos tok buf st en (.iface 58 (.pointer (some aT)))) :
    Calls Tryd.prog 9 #[.pointer (some ⟨r + 2, 0, none⟩)] w fun e w' => e = .returned (.iface 58 (.pointer (some aT))) ∧ Below r w0 w' := by
  obtain ⟨d0, d1, d2⟩ := h.dcells
  have hg : w.cell? ⟨4, 0, none⟩ = some (.iface 58 (.pointer (some aE))) := by rw [h.below.cell (p := ⟨4, 0, none⟩) hr]; exact hE
  have HE := hide (err_other (r + 1) aE aT ca cb ta tb w h.cells.2.2.2.2.2.2.2.1 hg hne (by rw [h.below.block _ hlb]; exact hb) (by rw [h.below.block _ hla]; exact ha))
  have HB := hide h.below
  clear h hE hg hb ha
  go_enter Tryd.func9, Tryd.ntmps9
  go_wp2_with fail
  refine HE.out.mono ?_
  rintro e w1 ⟨rfl, n, rfl⟩
  go_wp2
  go_ret
  exact ⟨rfl, below_drewN HB.out n⟩

theorem decText {B o c : Nat} {x : List UInt8} (h : Core r S mx w0 w pos (.slice (some ⟨B, o, none⟩) x.length c) buf st en err) (hH : Holds w B o x) :
    Calls Tryd.prog 10 #[.pointer (some ⟨r + 2, 0, none⟩)] w fun e w' => e = .returned (.string ⟨x.toArray⟩) ∧ w = w' := by
  obtain ⟨d0, d1, d2⟩ := h.dcells
  have HT := hide (text_any (r + 1) B o c x w h.cells.2.2.2.1 hH)
  clear h hH
  go_enter Tryd.func10, Tryd.ntmps10
  go_wp2_with fail
  refine HT.out.mono ?_
  rintro e w1 ⟨rfl, rfl⟩
  go_wp2
  go_ret
  exact ⟨rfl, rfl⟩

/-- What NewDecoder leaves. -/
theorem start_inv (s : List UInt8) (w : World) (mx : Int) (E : Value) :
    Inv w.heap.size s mx w E 0 (s.length + 1) (((w.alloc (.cells #[.string ⟨s.toArray⟩, .int .i64 0, .int .i64 (-1)] 45)).alloc (.cells #[.iface 32 (.pointer (some ⟨w.heap.size, 0, none⟩)), .func (.func 20) #[] #[], .int .i64 mx, .slice none 0 0, .slice none 0 0, .int .i64 0, .int .i64 0, .nilIface, .int .i64 0, .bool false, .bool false] 50)).alloc
      (.cells #[.pointer (some ⟨w.heap.size + 1, 0, none⟩), .int .i64 mx, .int .i64 0] 36)) := by
  refine ⟨0, 0, [], 0, .slice none 0 0, false, ⟨⟨0, false, ?_⟩, ⟨-1, ?_⟩, ?_, ?_⟩, fun h => absurd rfl h, ⟨Nat.le_refl _, Nat.le_refl _, Or.inr rfl, by simp, by omega, by simp⟩, by simp, by simp⟩
  · rw [Below.heap_alloc _ _ _ (by simp)]
    have e : (w.alloc (.cells #[.string ⟨s.toArray⟩, .int .i64 0, .int .i64 (-1)] 45)).heap.size = w.heap.size + 1 := by simp
    rw [← e]
    show (((w.alloc _).heap.push _))[(w.alloc _).heap.size]? = _
    rw [Array.getElem?_push_size]
    rfl
  · rw [Below.heap_alloc _ _ _ (by simp; omega), Below.heap_alloc _ _ _ (by simp)]
    show (w.heap.push _)[w.heap.size]? = _
    rw [Array.getElem?_push_size]
    rfl
  · generalize hW : ((w.alloc (.cells #[.string ⟨s.toArray⟩, .int .i64 0, .int .i64 (-1)] 45)).alloc (.cells #[.iface 32 (.pointer (some ⟨w.heap.size, 0, none⟩)), .func (.func 20) #[] #[], .int .i64 mx, .slice none 0 0, .slice none 0 0, .int .i64 0, .int .i64 0, .nilIface, .int .i64 0, .bool false, .bool false] 50)) = W
    have e : W.heap.size = w.heap.size + 2 := by rw [← hW]; simp
    rw [← e]
    show (W.heap.push _)[W.heap.size]? = _
    rw [Array.getElem?_push_size]
  · exact (((Below.refl _ _).alloc (Nat.le_refl _) _).alloc (by simp) _).alloc (by simp; omega) _
end
end Go.Proofs.Qxb6615772aDoor.fnDec
