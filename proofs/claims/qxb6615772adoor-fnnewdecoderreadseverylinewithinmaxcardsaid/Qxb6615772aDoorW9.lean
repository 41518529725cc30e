import Derived.Test.Qxb6615772aDoorW7
import Derived.Laws.MakeOwn
namespace Go.Proofs.Qxb6615772aDoor.fnDec
open Go.RowKit

theorem made_bytes (n : Nat) : madeCells #[.int .u8 0] n = (bc (List.replicate n 0)).toArray := by
  unfold madeCells bc
  apply Array.ext
  · simp
  · intro i h1 h2
    simp [Nat.mod_one]

theorem info5 : ∃ i, Tryd.prog.info? 5 = some i ∧ i.zero = some (.int .u8 0) ∧ i.size = 1 ∧ i.bytes = 1 := by
  have h : (Tryd.prog.info? 5).map (fun i => (i.zero, i.size, i.bytes)) = some (some (.int .u8 0), 1, 1) := by kernel_rfl
  cases hi : Tryd.prog.info? 5 with
  | none => simp [hi] at h
  | some i =>
    simp [hi] at h
    exact ⟨i, rfl, h.1, h.2.1, h.2.2⟩

theorem run_mk (n : Nat) (hn : n ≤ 4294967296) (w : World) : (Instr.makeSlice 48 (.int .i64 (n : Int)) (.int .i64 (n : Int))).run Tryd.prog w = .ok (.slice (some ⟨w.heap.size, 0, none⟩) n n) (w.alloc (.cells (bc (List.replicate n 0)).toArray 5)) := by
  obtain ⟨i, hi, hz, hs, hb⟩ := info5
  rw [run_make w 48 5 i (.int .u8 0) Tryd.underlying48 hi hz .i64 .i64 n n (by omega) (by omega) (by rw [hb]; omega) (by omega)]
  rw [Int.toNat_natCast, hs, Nat.mul_one]
  have : (Value.int .u8 0).cells = #[.int .u8 0] := rfl
  rw [this, made_bytes]

/-- buf[0:len(buf)]. -/
theorem slice_all (a0 : Option Addr) (L : Nat) (ha : ∀ a, a0 = some a → a.add 0 = a) : ∀ w, (Instr.slice 48 (.slice a0 L L) (some (.int .i64 0)) (some (.int .i64 (L : Int))) none).run Tryd.prog w = .ok (.slice a0 L L) w := by
  intro w
  have he : Tryd.prog.elem 48 = 5 := by kernel_rfl
  rw [run_slice_lh (P := Tryd.prog) w 48 a0 L L (by rw [he]; exact Tryd.underlying48) .i64 .i64 _ _ (by omega) (by omega) (by omega), he, size5]
  cases a0 with
  | none => simp [sliced]
  | some a => simp [sliced, ha a rfl]

/-- copy(newBuf, buf[0:len(buf)]). -/
theorem run_grow {r : Nat} (w : World) (ty : TypeId) (a0 : Option Addr) (B B' L n : Nat) (cur : List UInt8) (hL : L = cur.length) (hn : L ≤ n) (hB : L ≠ 0 → a0 = some ⟨B, 0, none⟩ ∧ Buf r w B cur) (hB' : w.heap[B']? = some (.cells (bc (List.replicate n 0)).toArray 5 (0, 0))) :
    (Builtin.copy_ #[48, 48] ty #[.slice (some ⟨B', 0, none⟩) n n, .slice a0 L L]).run Tryd.prog w = .ok (goInt (L : Int)) (w.setRow B' (bc (cur ++ List.replicate (n - L) 0)).toArray) := by
  subst hL
  by_cases h : cur.length = 0
  · have e1 : cur = [] := List.length_eq_zero_iff.1 h
    subst e1
    rw [run_copy_none (P := Tryd.prog) w 48 48 ty 5 _ _ _ _ _ _ Tryd.underlying48 size5' (by simp)]
    have : bc ([] ++ List.replicate (n - ([] : List UInt8).length) 0) = bc (List.replicate n 0) := by simp
    rw [this, setRow_self w B' _ 5 (0, 0) hB']
    rfl
  · obtain ⟨rfl, hb⟩ := hB h
    have hx : (bc cur).length = Nat.min cur.length n := by
      rw [bc_length]; exact (Nat.min_eq_left hn).symm
    rw [run_copy_row (P := Tryd.prog) w 48 48 ty 5 B' 0 n n ⟨B, 0, none⟩ cur.length cur.length (bc (List.replicate n 0)).toArray 5 (bc cur) Tryd.underlying48 size5' hB' hx ?_ ?_ (bc_one _)]
    · rw [bc_length]
      have : bc (cur ++ List.replicate (n - cur.length) 0) = bc cur ++ (bc (List.replicate n 0)).drop cur.length := by
        rw [bc_append]; simp [bc]
      rw [this]
      simp only [Nat.zero_add, List.take_zero, List.nil_append]
    · intro j v hj
      have hjl : j < (bc cur).length := (List.getElem?_eq_some_iff.1 hj).1
      rw [bc_length] at hjl
      rw [addr_add, Nat.zero_add, hb.cell j hjl]
      rw [bc_get _ j hjl] at hj
      exact hj
    · simp [bc_length]; omega

/-- The frame with the new size in its place. -/
def Fr6 (r : Nat) (v : Value) (a : Act) : Prop := ∃ (u2 u3 u4 u5 : Value) (l : List Value), l.length = 327 ∧ a = ⟨(.pointer (some ⟨r + 1, 0, none⟩) :: undef :: u2 :: u3 :: u4 :: u5 :: v :: l).toArray, []⟩

set_option maxRecDepth 100000 in
theorem fr6_all {r : Nat} {v : Value} {Q : Act → Prop} (h : ∀ u2 u3 u4 u5, AllL 327 (fun l => Q ⟨(.pointer (some ⟨r + 1, 0, none⟩) :: undef :: u2 :: u3 :: u4 :: u5 :: v :: l).toArray, []⟩)) : ∀ a, Fr6 r v a → Q a := by
  rintro a ⟨u2, u3, u4, u5, l, hl, rfl⟩
  exact allL_elim 327 (P := fun l => Q ⟨(.pointer (some ⟨r + 1, 0, none⟩) :: undef :: u2 :: u3 :: u4 :: u5 :: v :: l).toArray, []⟩) (h u2 u3 u4 u5) l hl

section
variable {r : Nat} {S : List UInt8} {mx : Int} {w0 w : World} {pos : Nat} {tok buf : Value} {st en : Nat} {K : Act → World → Prop} {Q : Exit → Act → World → Prop}

set_option maxRecDepth 100000 in
set_option maxHeartbeats 4000000 in
/-- The growing, from the 'make' on. -/
theorem grow2 {a0 : Option Addr} {B L n : Nat} {cur : List UInt8} (hC : Core r S mx w0 w pos tok (.slice a0 L L) 0 L .nilIface) (hL : L = cur.length) (hn : L ≤ n) (hB : L ≠ 0 → a0 = some ⟨B, 0, none⟩ ∧ Buf r w B cur) (ha : ∀ a, a0 = some a → a.add 0 = a) (hn2 : n ≤ 4294967296)
    (hK : ∀ a' w' B', Fr r a' → Core r S mx w0 w' pos tok (.slice (some ⟨B', 0, none⟩) n n) 0 L .nilIface → Buf r w' B' (cur ++ List.replicate (n - L) 0) → K a' w') :
    ∀ a, Fr6 r (.int .i64 (n : Int)) a → Code.wp Tryd.prog (sndS (sndS (sndS (sndS (thnS (sndS (fstS (sndS (sndS (sndS (inBlk (bodyOf Tryd.f13)))))))))))) (Exit.then K Q) a w := by
  have hlt := hC.lt
  have hmk := run_mk n hn2 w
  obtain ⟨w1, hw1⟩ : ∃ w1, w1 = w.alloc (.cells (bc (List.replicate n 0)).toArray 5) := ⟨_, rfl⟩
  obtain ⟨B', hB'⟩ : ∃ B', B' = w.heap.size := ⟨_, rfl⟩
  rw [← hw1, ← hB'] at hmk
  have hC1 : Core r S mx w0 w1 pos tok (.slice a0 L L) 0 L .nilIface := by rw [hw1]; exact hC.alloc _
  have hb1 : w1.heap[B']? = some (.cells (bc (List.replicate n 0)).toArray 5 (0, 0)) := by
    rw [hw1, hB']
    show (w.heap.push _)[w.heap.size]? = _
    rw [Array.getElem?_push_size]
  have hbo : L ≠ 0 → a0 = some ⟨B, 0, none⟩ ∧ Buf r w1.drew B cur := fun h => ⟨(hB h).1, by
    rw [hw1]
    refine ⟨?_, (hB h).2.2⟩
    show (w.alloc _).heap[B]? = _
    rw [Below.heap_alloc _ _ _ (Array.getElem?_eq_some_iff.1 (hB h).2.1).1]
    exact (hB h).2.1⟩
  have hcp := run_grow (r := r) w1.drew 3 a0 B B' L n cur hL hn hbo hb1
  obtain ⟨w2, hw2⟩ : ∃ w2, w2 = w1.drew.setRow B' (bc (cur ++ List.replicate (n - L) 0)).toArray := ⟨_, rfl⟩
  rw [← hw2] at hcp
  have hC2 : Core r S mx w0 w2 pos tok (.slice a0 L L) 0 L .nilIface := by rw [hw2]; exact (hC1.drewN 1).setRow B' (by omega) _
  have hB2 : Buf r w2 B' (cur ++ List.replicate (n - L) 0) := by rw [hw2]; exact ⟨setRow_heap w1.drew B' _ _ 5 (0, 0) hb1, by omega⟩
  have hsl := slice_all a0 L ha
  have HK := hide hK
  have HC := hide hC2
  have HB := hide hB2
  obtain ⟨-, -, -, -, c4, c5, c6, -, -, -, -, cf⟩ := hC1.cells
  obtain ⟨-, -, -, -, d4, d5, d6, -, -, -, -, df⟩ := hC2.cells
  clear hC hB hK hL hw1 hw2 hB' hC1 hC2 hB2 hb1 hbo cf ha
  have hLn : (L : Int) ≤ 4294967296 := by omega
  refine fr6_all ?_
  intro _ _ _ _
  iterate 327 intro _
  show Code.wp _ _ _ _ _
  conv => arg 2; whnf
  go_wp2_with fail
  go_region_held3 (fun w' => w'.cell? ⟨r + 1, 4, none⟩ = some (.slice a0 L L) ∧ w'.cell? ⟨r + 1, 5, none⟩ = some (.int .i64 0) ∧ w'.cell? ⟨r + 1, 6, none⟩ = some (.int .i64 (L : Int))) (go_keep) (fail)
  go_wp2_with fail
  go_region
  go_wp2_with fail
  exact HK.out _ _ B' ⟨_, rfl, rfl⟩ (((((HC.out).setBuf _).drewN 1).setEn L).setSt 0) (((((HB.out).set _ _).drewN 1).set _ _).set _ _)

set_option maxRecDepth 100000 in
set_option maxHeartbeats 4000000 in
/-- It may grow. -/
theorem growA {a0 : Option Addr} {L : Nat} (hC : Core r S mx w0 w pos tok (.slice a0 L L) st en .nilIface) (hL2 : L ≤ 1048576) (hm : (L : Int) < mx) (hK : ∀ n a', Fr r a' → K a' (w.drewN n)) :
    ∀ a, Fr r a → Code.wp Tryd.prog (fstS (thnS (sndS (fstS (sndS (sndS (sndS (inBlk (bodyOf Tryd.f13))))))))) (Exit.then K Q) a w := by
  obtain ⟨c0, c1, c2, c3, c4, c5, c6, c7, ⟨emp, c8⟩, ⟨cal, c9⟩, c10, cf⟩ := hC.cells
  have HK := hide hK
  clear hC hK c0 c1 c3 c5 c6 c7 c8 c9 c10 cf
  refine fr_all ?_
  iterate 332 intro _
  show Code.wp _ _ _ _ _
  conv => arg 2; whnf
  have g2 : decide (mx ≤ (L : Int)) = false := by simp; omega
  have g3 : ¬ (4611686018427387903 : Int) < (L : Int) := by omega
  go_wp2_with fail
  go_quiet (fail)
  go_wp2_with fail
  exact HK.out _ _ ⟨_, rfl, rfl⟩

set_option maxRecDepth 100000 in
set_option maxHeartbeats 4000000 in
theorem grow35 {a0 : Option Addr} {L : Nat} (hC : Core r S mx w0 w pos tok (.slice a0 L L) st en .nilIface) (hL2 : L ≤ 1048576) (hK : ∀ a', Fr6 r (.int .i64 ((L : Int) * 2)) a' → K a' w) :
    ∀ a, Fr r a → Code.wp Tryd.prog (fstS (sndS (thnS (sndS (fstS (sndS (sndS (sndS (inBlk (bodyOf Tryd.f13)))))))))) (Exit.then K Q) a w := by
  obtain ⟨c0, c1, c2, c3, c4, c5, c6, c7, ⟨emp, c8⟩, ⟨cal, c9⟩, c10, cf⟩ := hC.cells
  have HK := hide hK
  clear hC hK c0 c1 c3 c5 c6 c7 c8 c9 c10 cf
  refine fr_all ?_
  iterate 332 intro _
  show Code.wp _ _ _ _ _
  conv => arg 2; whnf
  go_wp2_with fail
  exact HK.out _ ⟨_, _, _, _, _, rfl, rfl⟩

set_option maxRecDepth 100000 in
set_option maxHeartbeats 4000000 in
theorem grow36 {L : Nat} (hK : ∀ a', Fr6 r (.int .i64 (if L = 0 then 4096 else (L : Int) * 2)) a' → K a' w) :
    ∀ a, Fr6 r (.int .i64 ((L : Int) * 2)) a → Code.wp Tryd.prog (fstS (sndS (sndS (thnS (sndS (fstS (sndS (sndS (sndS (inBlk (bodyOf Tryd.f13))))))))))) (Exit.then K Q) a w := by
  by_cases hz : L = 0
  · rw [if_pos hz] at hK
    have g5 : ((L : Int) * 2 == 0) = true := by rw [beq_iff_eq]; omega
    have HK := hide hK
    clear hK hz
    refine fr6_all ?_
    intro _ _ _ _
    iterate 327 intro _
    show Code.wp _ _ _ _ _
    conv => arg 2; whnf
    go_wp2_with fail
    exact HK.out _ ⟨_, _, _, _, _, rfl, rfl⟩
  · rw [if_neg hz] at hK
    have g5 : ((L : Int) * 2 == 0) = false := by rw [beq_eq_false_iff_ne]; omega
    have HK := hide hK
    clear hK hz
    refine fr6_all ?_
    intro _ _ _ _
    iterate 327 intro _
    show Code.wp _ _ _ _ _
    conv => arg 2; whnf
    go_wp2_with fail
    exact HK.out _ ⟨_, _, _, _, _, rfl, rfl⟩

set_option maxRecDepth 100000 in
set_option maxHeartbeats 4000000 in
theorem grow38 {z : Int} (hC : Core r S mx w0 w pos tok buf st en .nilIface) (hK : ∀ a', Fr6 r (.int .i64 (if mx < z then mx else z)) a' → K a' w) :
    ∀ a, Fr6 r (.int .i64 z) a → Code.wp Tryd.prog (fstS (sndS (sndS (sndS (thnS (sndS (fstS (sndS (sndS (sndS (inBlk (bodyOf Tryd.f13)))))))))))) (Exit.then K Q) a w := by
  obtain ⟨c0, c1, c2, c3, c4, c5, c6, c7, ⟨emp, c8⟩, ⟨cal, c9⟩, c10, cf⟩ := hC.cells
  by_cases hz : mx < z
  · rw [if_pos hz] at hK
    have HK := hide hK
    clear hC hK c0 c1 c3 c4 c5 c6 c7 c8 c9 c10 cf
    refine fr6_all ?_
    intro _ _ _ _
    iterate 327 intro _
    show Code.wp _ _ _ _ _
    conv => arg 2; whnf
    go_wp2_with fail
    exact HK.out _ ⟨_, _, _, _, _, rfl, rfl⟩
  · rw [if_neg hz] at hK
    have HK := hide hK
    clear hC hK c0 c1 c3 c4 c5 c6 c7 c8 c9 c10 cf
    refine fr6_all ?_
    intro _ _ _ _
    iterate 327 intro _
    show Code.wp _ _ _ _ _
    conv => arg 2; whnf
    go_wp2_with fail
    exact HK.out _ ⟨_, _, _, _, _, rfl, rfl⟩

set_option maxRecDepth 100000 in
set_option maxHeartbeats 4000000 in
/-- The growing, whole. -/
theorem s3_grow {a0 : Option Addr} {B L n : Nat} {cur : List UInt8} (hC : Core r S mx w0 w pos tok (.slice a0 L L) 0 L .nilIface) (hL : L = cur.length) (hB : L ≠ 0 → a0 = some ⟨B, 0, none⟩ ∧ Buf r w B cur) (ha : ∀ a, a0 = some a → a.add 0 = a) (hL2 : L ≤ 1048576) (hm : (L : Int) < mx)
    (hn : (n : Int) = if mx < (if L = 0 then 4096 else (L : Int) * 2) then mx else (if L = 0 then 4096 else (L : Int) * 2))
    (hK : ∀ a' w' B', Fr r a' → Core r S mx w0 w' pos tok (.slice (some ⟨B', 0, none⟩) n n) 0 L .nilIface → Buf r w' B' (cur ++ List.replicate (n - L) 0) → K a' w') :
    ∀ a, Fr r a → Code.wp Tryd.prog (fstS (sndS (sndS (sndS (inBlk (bodyOf Tryd.f13)))))) (Exit.then K Q) a w := by
  have hLn : L ≤ n := by
    split at hn
    · omega
    · split at hn <;> omega
  have hn2 : n ≤ 4294967296 := by
    split at hn
    · split at * <;> omega
    · split at hn <;> omega
  have HG : Hid (∀ k a, Fr r a → Code.wp Tryd.prog (thnS (sndS (fstS (sndS (sndS (sndS (inBlk (bodyOf Tryd.f13)))))))) (Exit.then K Q) a (w.drewN k)) := fun k a hf => by
    refine wp_seq (x := fstS (thnS (sndS (fstS (sndS (sndS (sndS (inBlk (bodyOf Tryd.f13))))))))) (y := sndS (thnS (sndS (fstS (sndS (sndS (sndS (inBlk (bodyOf Tryd.f13))))))))) ?_
    refine growA (hC.drewN k) hL2 hm (fun k2 a' hf' => ?_) a hf
    refine wp_seq (x := fstS (sndS (thnS (sndS (fstS (sndS (sndS (sndS (inBlk (bodyOf Tryd.f13)))))))))) (y := sndS (sndS (thnS (sndS (fstS (sndS (sndS (sndS (inBlk (bodyOf Tryd.f13)))))))))) ?_
    refine grow35 ((hC.drewN k).drewN k2) hL2 (fun a' hf' => ?_) a' hf'
    refine wp_seq (x := fstS (sndS (sndS (thnS (sndS (fstS (sndS (sndS (sndS (inBlk (bodyOf Tryd.f13))))))))))) (y := sndS (sndS (sndS (thnS (sndS (fstS (sndS (sndS (sndS (inBlk (bodyOf Tryd.f13))))))))))) ?_
    refine grow36 (fun a' hf' => ?_) a' hf'
    refine wp_seq (x := fstS (sndS (sndS (sndS (thnS (sndS (fstS (sndS (sndS (sndS (inBlk (bodyOf Tryd.f13)))))))))))) (y := sndS (sndS (sndS (sndS (thnS (sndS (fstS (sndS (sndS (sndS (inBlk (bodyOf Tryd.f13)))))))))))) ?_
    refine grow38 ((hC.drewN k).drewN k2) (fun a' hf' => ?_) a' hf'
    rw [← hn] at hf'
    exact grow2 ((hC.drewN k).drewN k2) hL hLn (fun h => ⟨(hB h).1, ((hB h).2.drewN k).drewN k2⟩) ha hn2 hK a' hf'
  obtain ⟨c0, c1, c2, c3, c4, c5, c6, c7, ⟨emp, c8⟩, ⟨cal, c9⟩, c10, cf⟩ := hC.cells
  clear hC hK hB ha hL hn hLn c0 c1 c2 c3 c5 c7 c8 c9 c10 cf
  refine fr_all ?_
  iterate 332 intro _
  show Code.wp _ _ _ _ _
  conv => arg 2; whnf
  have g1 : ((L : Int) == (L : Int)) = true := by simp
  go_wp2_with fail
  go_quiet (fail)
  go_upto_if 195 with fail
  refine wp_cond (t := true) rfl ?_
  rw [if_pos rfl]
  refine HG.out _ _ ?_
  exact ⟨_, rfl, rfl⟩
end
end Go.Proofs.Qxb6615772aDoor.fnDec
