import Derived.Test.Qxb6615772aDoorW2
namespace Go.Proofs.Qxb6615772aDoor.fnDec
open Go.RowKit

/-- (*strings.Reader).Read at the end of the text. -/
theorem read_eof (r : Nat) (s : ByteArray) (pos : Nat) (dst : Value) (T : TypeId) (v : Value) (w : World) (h0 : w.cell? ⟨r, 0, none⟩ = some (.string s)) (h1 : w.cell? ⟨r, 1, none⟩ = some (.int .i64 (pos : Int))) (hg : w.cell? ⟨4, 0, none⟩ = some (.iface T v)) (hp : s.size ≤ pos) :
    Calls Tryd.prog 41 #[.pointer (some ⟨r, 0, none⟩), dst] w fun e w' => e = .returned (.tuple #[.int .i64 0, .iface T v]) ∧ ∃ n, w' = w.drewN n := by
  have hp' : (s.size : Int) ≤ (pos : Int) := by omega
  go_enter Tryd.func41, Tryd.ntmps41
  go_wp2_with fail
  go_quiet (fail)
  go_wp2_with fail
  go_quiet (fail)
  go_wp2_with fail
  go_ret2
  exact ⟨rfl, _, World.drewN_drewN _ _ _⟩

/-- What 'copy' of a string does to a row. -/
theorem run_copy_str (w : World) (ty : TypeId) (g o dLen dCap : Nat) (x : List UInt8) (cur : List Value) (t : TypeId) (n : Nat)
    (hg : w.heap[g]? = some (.cells cur.toArray t (0, 0))) (hn : n = Nat.min x.length dLen) (hfit : o + n ≤ cur.length) :
    (Builtin.copy_ #[48, 9] ty #[.slice (some ⟨g, o, none⟩) dLen dCap, .string ⟨x.toArray⟩]).run Tryd.prog w =
      .ok (goInt n) (w.setRow g (cur.take o ++ bc (x.take n) ++ cur.drop (o + n)).toArray) := by
  have hlen : (bc (x.take n)).length = n := by rw [bc_length, List.length_take]; simp [hn]
  have hst := run_storeCells_at Tryd.prog g o t (bc (x.take n)) 0 cur.toArray w hg (by rw [hlen]; simpa using hfit) (bc_one _)
  rw [hlen] at hst
  simp only [Nat.add_zero] at hst
  have hq : (Tryd.prog.info? 5).map (·.size) = some 1 := by kernel_rfl
  cases hi : Tryd.prog.info? 5 with
  | none => simp [hi] at hq
  | some i =>
    simp [Builtin.copy_, run_underlying Tryd.underlying48, Builtin.lenOf, Builtin.firstCells, sizeOf, typeInfo, hi]
    have hsz : (⟨x.toArray⟩ : ByteArray).size = x.length := by simp [ByteArray.size]
    have htk : List.take n (List.map (fun b : UInt8 => Value.int IntKind.u8 (b.toNat : Int)) x) = bc (List.take n x) := by simp [bc, List.map_take]
    rw [hsz, ← hn, htk, hst]
    simp [Result.andThen]

theorem bs_extract (L : List UInt8) (a b : Nat) : (⟨L.toArray⟩ : ByteArray).extract a b = ⟨((L.take b).drop a).toArray⟩ := by
  have h : ((⟨L.toArray⟩ : ByteArray).extract a b).data = ((L.take b).drop a).toArray := by
    rw [ByteArray.data_extract]
    simp [List.extract_eq_take_drop, List.drop_take]
  cases hx : (⟨L.toArray⟩ : ByteArray).extract a b with
  | mk d => rw [hx] at h; simp at h; rw [h]

theorem bs_from (L : List UInt8) (a : Nat) : (⟨L.toArray⟩ : ByteArray).extract a L.length = ⟨(L.drop a).toArray⟩ := by
  rw [bs_extract, List.take_length]

set_option maxHeartbeats 1000000 in
/-- (*strings.Reader).Read where bytes are left. -/
theorem read_data (r B o m pos n : Nat) (S cur : List UInt8) (pr : Int) (w : World)
    (h0 : w.heap[r]? = some (.cells #[.string ⟨S.toArray⟩, .int .i64 (pos : Int), .int .i64 pr] 45 (0, 0))) (hB : w.heap[B]? = some (.cells (bc cur).toArray 5 (0, 0))) (hrB : r ≠ B)
    (_hm : 1 ≤ m) (hom : o + m = cur.length) (hp : pos < S.length) (hS : S.length ≤ 4294967296) (hn : n = Nat.min (S.length - pos) m) :
    Calls Tryd.prog 41 #[.pointer (some ⟨r, 0, none⟩), .slice (some ⟨B, o, none⟩) m m] w fun e w' => e = .returned (.tuple #[.int .i64 (n : Int), .nilIface]) ∧
      w'.heap[r]? = some (.cells #[.string ⟨S.toArray⟩, .int .i64 ((pos + n : Nat) : Int), .int .i64 (-1)] 45 (0, 0)) ∧
      w'.heap[B]? = some (.cells (bc (cur.take o ++ (S.drop pos).take n ++ cur.drop (o + n))).toArray 5 (0, 0)) ∧
      (∀ k, k ≠ r → k ≠ B → w'.heap[k]? = w.heap[k]?) ∧ w'.heap.size = w.heap.size ∧ w'.os = w.os ∧ w'.tape = w.tape ∧ w'.output = w.output := by
  have c0 : w.cell? ⟨r, 0, none⟩ = some (.string ⟨S.toArray⟩) := by simp [World.cell?, h0]
  have c1 : w.cell? ⟨r, 1, none⟩ = some (.int .i64 (pos : Int)) := by simp [World.cell?, h0]
  have c2 : w.cell? ⟨r, 2, none⟩ = some (.int .i64 pr) := by simp [World.cell?, h0]
  have f1 : w.frozen? ⟨r, 1, none⟩ = false := by simp [World.frozen?, h0]
  have f2 : w.frozen? ⟨r, 2, none⟩ = false := by simp [World.frozen?, h0]
  have hp' : (pos : Int) < (S.length : Int) := by omega
  go_enter Tryd.func41, Tryd.ntmps41
  go_wp2_with fail
  go_quiet (fail)
  go_wp2_with fail
  generalize hw1 : (w.drewN nq).setCell ⟨r, 2, none⟩ (.int .i64 (-1)) = w1
  have g0 : w1.heap[r]? = some (.cells #[.string ⟨S.toArray⟩, .int .i64 (pos : Int), .int .i64 (-1)] 45 (0, 0)) := by
    rw [← hw1]
    simp [World.setCell, World.drewN, Array.getElem?_modify, h0]
  have gB : w1.heap[B]? = some (.cells (bc cur).toArray 5 (0, 0)) := by
    rw [← hw1, Below.heap_setCell _ _ _ _ (by exact fun e => hrB e.symm)]
    exact hB
  have gk : ∀ k, k ≠ r → w1.heap[k]? = w.heap[k]? := fun k hk => by
    rw [← hw1, Below.heap_setCell _ _ _ _ (by exact hk)]
    rfl
  have gs : w1.heap.size = w.heap.size ∧ w1.os = w.os ∧ w1.tape = w.tape ∧ w1.output = w.output := by
    rw [← hw1]
    exact ⟨by simp [World.setCell], rfl, rfl, rfl⟩
  clear hw1 c0 c1 c2 f1 f2 h0 hB
  have c0 : w1.cell? ⟨r, 0, none⟩ = some (.string ⟨S.toArray⟩) := by simp [World.cell?, g0]
  have c1 : w1.cell? ⟨r, 1, none⟩ = some (.int .i64 (pos : Int)) := by simp [World.cell?, g0]
  have f1 : w1.frozen? ⟨r, 1, none⟩ = false := by simp [World.frozen?, g0]
  have hcopy : ∀ wx ty, wx.heap[B]? = some (.cells (bc cur).toArray 5 (0, 0)) → (Builtin.copy_ #[48, 9] ty #[.slice (some ⟨B, o, none⟩) m m, .string ((⟨S.toArray⟩ : ByteArray).extract pos S.length)]).run Tryd.prog wx =
      .ok (goInt n) (wx.setRow B ((bc cur).take o ++ bc ((S.drop pos).take n) ++ (bc cur).drop (o + n)).toArray) := by
    intro wx ty hx
    rw [bs_from]
    exact run_copy_str _ ty B o m m (S.drop pos) (bc cur) 5 n hx (by rw [List.length_drop]; exact hn) (by rw [bc_length, hn, ← hom]; have := Nat.min_le_right (S.length - pos) m; show o + min _ _ ≤ _; omega)
  have hcopy1 := hcopy w1.drew 3 gB
  obtain ⟨w2, hw2⟩ : ∃ w2, w2 = w1.drew.setRow B ((bc cur).take o ++ bc ((S.drop pos).take n) ++ (bc cur).drop (o + n)).toArray := ⟨_, rfl⟩
  rw [← hw2] at hcopy1
  have k0 : w2.heap[r]? = some (.cells #[.string ⟨S.toArray⟩, .int .i64 (pos : Int), .int .i64 (-1)] 45 (0, 0)) := by
    rw [hw2, setRow_other _ _ _ _ hrB]
    exact g0
  have kB : w2.heap[B]? = some (.cells (bc (cur.take o ++ (S.drop pos).take n ++ cur.drop (o + n))).toArray 5 (0, 0)) := by
    rw [hw2, setRow_heap w1.drew B _ _ 5 (0, 0) gB]
    simp only [bc_append, bc_take, bc_drop]
  have kk : ∀ k, k ≠ r → k ≠ B → w2.heap[k]? = w.heap[k]? := fun k h1 h2 => by
    rw [hw2, setRow_other _ _ _ _ h2]
    exact gk k h1
  have ks : w2.heap.size = w.heap.size ∧ w2.os = w.os ∧ w2.tape = w.tape ∧ w2.output = w.output := by
    rw [hw2]
    exact ⟨by simpa [World.setRow] using gs.1, gs.2.1, gs.2.2.1, gs.2.2.2⟩
  have c1' : w2.cell? ⟨r, 1, none⟩ = some (.int .i64 (pos : Int)) := by simp [World.cell?, k0]
  have f1' : w2.frozen? ⟨r, 1, none⟩ = false := by simp [World.frozen?, k0]
  have GK : Hid (w2.heap[r]? = some (.cells #[.string ⟨S.toArray⟩, .int .i64 (pos : Int), .int .i64 (-1)] 45 (0, 0)) ∧ w2.heap[B]? = some (.cells (bc (cur.take o ++ (S.drop pos).take n ++ cur.drop (o + n))).toArray 5 (0, 0)) ∧
    (∀ k, k ≠ r → k ≠ B → w2.heap[k]? = w.heap[k]?) ∧ w2.heap.size = w.heap.size ∧ w2.os = w.os ∧ w2.tape = w.tape ∧ w2.output = w.output) := ⟨k0, kB, kk, ks⟩
  have hnS : (pos : Int) + (n : Int) ≤ 4294967296 := by
    have := Nat.min_le_left (S.length - pos) m
    rw [hn]; show (pos : Int) + ((min _ _ : Nat) : Int) ≤ _; omega
  clear gk g0 gB gs hcopy hn k0 kB kk ks hw2
  go_region
  go_wp2
  go_ret2
  obtain ⟨k0, kB, kk, ks, ko, kt, ku⟩ := GK.out
  refine ⟨rfl, ?_, ?_, ?_, ?_, ko, kt, ku⟩
  · rw [Int.natCast_add]
    simp [World.setCell, Array.getElem?_modify, k0]
  · rw [Below.heap_setCell _ _ _ _ (by exact fun e => hrB e.symm)]
    exact kB
  · intro k h1 h2
    rw [Below.heap_setCell _ _ _ _ (by exact h1)]
    exact kk k h1 h2
  · simpa [World.setCell] using ks

theorem info58 : ∃ i, Tryd.prog.info? 58 = some i ∧ i.comparable = true := by
  have h : (Tryd.prog.info? 58).map (·.comparable) = some true := by kernel_rfl
  cases hi : Tryd.prog.info? 58 with
  | none => simp [hi] at h
  | some i => exact ⟨i, rfl, by simpa [hi] using h⟩
theorem info77 : ∃ i, Tryd.prog.info? 77 = some i ∧ i.size ≠ 0 := by
  have h : (Tryd.prog.info? 77).map (·.size) = some 1 := by kernel_rfl
  cases hi : Tryd.prog.info? 77 with
  | none => simp [hi] at h
  | some i => exact ⟨i, rfl, by have : i.size = 1 := by simpa [hi] using h
                                omega⟩

theorem err_eof (sc : Nat) (a : Addr) (w : World) (h7 : w.cell? ⟨sc, 7, none⟩ = some (.iface 58 (.pointer (some a)))) (hg : w.cell? ⟨4, 0, none⟩ = some (.iface 58 (.pointer (some a)))) :
    Calls Tryd.prog 14 #[.pointer (some ⟨sc, 0, none⟩)] w fun e w' => e = .returned .nilIface ∧ ∃ n, w' = w.drewN n := by
  have he : ∀ w, (binOp .eql 28 (.iface 58 (.pointer (some a))) (.iface 58 (.pointer (some a)))).run Tryd.prog w = .ok (.bool true) w := fun w => by
    obtain ⟨i, hi, hc⟩ := info58
    obtain ⟨j, hj, _⟩ := info77
    exact run_eql_iface_ptr_same w a Tryd.underlying28 Tryd.underlying58 hi hc hj
  go_enter Tryd.func14, Tryd.ntmps14
  go_wp2_with fail
  go_quiet (fail)
  go_wp2
  go_ret
  exact ⟨rfl, _, rfl⟩

theorem err_other (sc : Nat) (a b : Addr) (ca cb : Array Value) (ta tb : TypeId) (w : World) (h7 : w.cell? ⟨sc, 7, none⟩ = some (.iface 58 (.pointer (some b)))) (hg : w.cell? ⟨4, 0, none⟩ = some (.iface 58 (.pointer (some a)))) (hne : b ≠ a)
    (hb : w.heap[b.block]? = some (.cells cb tb (0, 0))) (ha : w.heap[a.block]? = some (.cells ca ta (0, 0))) :
    Calls Tryd.prog 14 #[.pointer (some ⟨sc, 0, none⟩)] w fun e w' => e = .returned (.iface 58 (.pointer (some b))) ∧ ∃ n, w' = w.drewN n := by
  have he : ∀ n, (binOp .eql 28 (.iface 58 (.pointer (some b))) (.iface 58 (.pointer (some a)))).run Tryd.prog (w.drewN n) = .ok (.bool false) (w.drewN n) := fun n => by
    obtain ⟨i, hi, hc⟩ := info58
    obtain ⟨j, hj, hs⟩ := info77
    exact run_eql_iface_ptr_other (w.drewN n) Tryd.underlying28 Tryd.underlying58 hi hc hj hs hne hb ha
  have he0 : (binOp .eql 28 (.iface 58 (.pointer (some b))) (.iface 58 (.pointer (some a)))).run Tryd.prog w = .ok (.bool false) w := he 0
  clear hb ha
  go_enter Tryd.func14, Tryd.ntmps14
  go_wp2_with fail
  go_quiet (fail)
  go_wp2
  go_ret
  exact ⟨rfl, _, rfl⟩

theorem text_any (sc B o c : Nat) (x : List UInt8) (w : World) (h3 : w.cell? ⟨sc, 3, none⟩ = some (.slice (some ⟨B, o, none⟩) x.length c)) (hc : Holds w B o x) :
    Calls Tryd.prog 15 #[.pointer (some ⟨sc, 0, none⟩)] w fun e w' => e = .returned (.string ⟨x.toArray⟩) ∧ w = w' := by
  have hcv : (convert 48 9 (.slice (some ⟨B, o, none⟩) x.length c)).run Tryd.prog w = .ok (.string ⟨x.toArray⟩) w := by
    refine run_convert_bytes_back _ 48 9 5 _ _ x Tryd.underlying48 Tryd.underlying5 Tryd.underlying9 (fun j hj => ?_)
    have hp : (⟨B, o, none⟩ : Addr).add j = ⟨B, o + j, none⟩ := by unfold Addr.add; split <;> simp_all
    rw [hp]
    exact hc j hj
  clear hc
  go_enter Tryd.func15, Tryd.ntmps15
  go_wp2
  go_ret
  exact ⟨rfl, rfl⟩
end Go.Proofs.Qxb6615772aDoor.fnDec
