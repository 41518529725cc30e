import Derived.Test.Qxb6615772aDoorW5
import Derived.Deep.RegionHeld3
namespace Go.Proofs.Qxb6615772aDoor.fnDec
open Go.RowKit

def thnS : Code → Code
  | .cond _ a _ => a
  | c => c

theorem size5' : (Tryd.prog.info? 5).map (·.size) = some 1 := by kernel_rfl

theorem addr_add (B o j : Nat) : (⟨B, o, none⟩ : Addr).add j = ⟨B, o + j, none⟩ := by unfold Addr.add; split <;> simp_all

/-- copy(buf, buf[st:en]). -/
theorem run_shift {r : Nat} (w : World) (ty : TypeId) (B L st en : Nat) (cur : List UInt8) (hB : Buf r w B cur) (hL : L = cur.length) (h1 : st ≤ en) (h2 : en ≤ L) (src : Value)
    (hs : src = if L = st then .slice (some ⟨B, 0, none⟩) 0 0 else .slice (some ⟨B, st, none⟩) (en - st) (L - st)) :
    (Builtin.copy_ #[48, 48] ty #[.slice (some ⟨B, 0, none⟩) L L, src]).run Tryd.prog w = .ok (goInt ((en - st : Nat) : Int)) (w.setRow B (bc ((cur.take en).drop st ++ cur.drop (en - st))).toArray) := by
  subst hL
  by_cases h : cur.length = st
  · have e1 : en = st := by omega
    rw [if_pos h] at hs
    subst hs
    rw [run_copy_none (P := Tryd.prog) w 48 48 ty 5 _ _ _ _ _ _ Tryd.underlying48 size5' (by simp)]
    have e2 : (cur.take en).drop st ++ cur.drop (en - st) = cur := by
      rw [e1, Nat.sub_self, List.drop_of_length_le (by simp; omega)]; simp
    rw [e2, setRow_self w B _ 5 (0, 0) hB.1, e1, Nat.sub_self]
    rfl
  · rw [if_neg h] at hs
    subst hs
    have hlen : (bc ((cur.take en).drop st)).length = en - st := by
      rw [bc_length]; simp; omega
    have hx : (bc ((cur.take en).drop st)).length = Nat.min (en - st) cur.length := by
      rw [hlen]; exact (Nat.min_eq_left (by omega)).symm
    rw [run_copy_row (P := Tryd.prog) w 48 48 ty 5 B 0 cur.length cur.length ⟨B, st, none⟩ (en - st) (cur.length - st) (bc cur).toArray 5 (bc ((cur.take en).drop st)) Tryd.underlying48 size5' hB.1 hx ?_ ?_ (bc_one _)]
    · rw [hlen]
      simp only [Nat.zero_add, List.take_zero, List.nil_append]
      rw [bc_append, bc_drop cur (en - st)]
    · intro j v hj
      have hjl : j < (bc ((cur.take en).drop st)).length := (List.getElem?_eq_some_iff.1 hj).1
      rw [hlen] at hjl
      rw [addr_add, hB.cell (st + j) (by omega)]
      rw [bc_get _ j (by simp; omega)] at hj
      rw [← hj]
      simp
    · rw [hlen]; simp [bc_length]; omega

theorem slice_shift (B L st en : Nat) (h1 : st ≤ en) (h2 : en ≤ L) : ∀ w, (Instr.slice 48 (.slice (some ⟨B, 0, none⟩) L L) (some (.int .i64 (st : Int))) (some (.int .i64 (en : Int))) none).run Tryd.prog w =
    .ok (if L = st then .slice (some ⟨B, 0, none⟩) 0 0 else .slice (some ⟨B, st, none⟩) (en - st) (L - st)) w := by
  intro w
  have he : Tryd.prog.elem 48 = 5 := by kernel_rfl
  rw [run_slice_lh (P := Tryd.prog) w 48 (some ⟨B, 0, none⟩) L L (by rw [he]; exact Tryd.underlying48) .i64 .i64 _ _ (by omega) (by omega) (by omega), he, size5]
  by_cases h : L = st
  · have : en = st := by omega
    simp [sliced, h, this]
  · simp [sliced, h]
    unfold Addr.add
    split <;> simp_all

section
variable {r : Nat} {S : List UInt8} {mx : Int} {w0 w : World} {pos : Nat} {tok buf : Value} {st en : Nat} {K : Act → World → Prop} {Q : Exit → Act → World → Prop}

set_option maxRecDepth 100000 in
set_option maxHeartbeats 4000000 in
/-- The shift's copy. -/
theorem shift_copy {B L : Nat} {cur : List UInt8} (hC : Core r S mx w0 w pos tok (.slice (some ⟨B, 0, none⟩) L L) st en .nilIface) (hB : Buf r w B cur) (hcL : L = cur.length) (h1 : st ≤ en) (h2 : en ≤ L)
    (hK : ∀ a' w', Fr r a' → Core r S mx w0 w' pos tok (.slice (some ⟨B, 0, none⟩) L L) st en .nilIface → Buf r w' B ((cur.take en).drop st ++ cur.drop (en - st)) → K a' w') :
    ∀ a, Fr r a → Code.wp Tryd.prog (fstS (thnS (sndS (fstS (sndS (sndS (inBlk (bodyOf Tryd.f13)))))))) (Exit.then K Q) a w := by
  obtain ⟨c0, c1, c2, c3, c4, c5, c6, c7, ⟨emp, c8⟩, ⟨cal, c9⟩, c10, cf⟩ := hC.cells
  obtain ⟨src, hsrc⟩ : ∃ src, src = if L = st then Value.slice (some ⟨B, 0, none⟩) 0 0 else .slice (some ⟨B, st, none⟩) (en - st) (L - st) := ⟨_, rfl⟩
  have hsl := slice_shift B L st en h1 h2
  rw [← hsrc] at hsl
  have hcp := run_shift (r := r) w.drew 3 B L st en cur hB hcL h1 h2 src hsrc
  obtain ⟨w2, hw2⟩ : ∃ w2, w2 = w.drew.setRow B (bc ((cur.take en).drop st ++ cur.drop (en - st))).toArray := ⟨_, rfl⟩
  rw [← hw2] at hcp
  have hC2 : Core r S mx w0 w2 pos tok (.slice (some ⟨B, 0, none⟩) L L) st en .nilIface := by rw [hw2]; exact (hC.drewN 1).setRow B hB.2 _
  have hB2 : Buf r w2 B ((cur.take en).drop st ++ cur.drop (en - st)) := by rw [hw2]; exact ⟨setRow_heap w.drew B _ _ 5 (0, 0) hB.1, hB.2⟩
  have HK := hide hK
  have HC := hide hC2
  have HB := hide hB2
  clear hC hB hK hcL c0 c1 c2 c3 c7 c8 c9 c10 cf hsrc hw2
  obtain ⟨-, -, -, -, d4, d5, d6, -, -, -, -, df⟩ := hC2.cells
  clear hC2 hB2 df
  refine fr_all ?_
  iterate 332 intro _
  show Code.wp _ _ _ _ _
  conv => arg 2; whnf
  go_region_held3 (fun w' => w'.cell? ⟨r + 1, 4, none⟩ = some (.slice (some ⟨B, 0, none⟩) L L) ∧ w'.cell? ⟨r + 1, 5, none⟩ = some (.int .i64 (st : Int)) ∧ w'.cell? ⟨r + 1, 6, none⟩ = some (.int .i64 (en : Int))) (go_keep) (fail)
  go_wp2_with fail
  exact HK.out _ _ ⟨_, rfl, rfl⟩ HC.out HB.out

set_option maxRecDepth 100000 in
set_option maxHeartbeats 4000000 in
/-- Behind the copy: 's.end -= s.start; s.start = 0'. -/
theorem shift_end {B : Nat} {cur : List UInt8} (hC : Core r S mx w0 w pos tok buf st en .nilIface) (hB : Buf r w B cur) (h1 : st ≤ en) (h2 : en ≤ 4294967296)
    (hK : ∀ a' w', Fr r a' → Core r S mx w0 w' pos tok buf 0 (en - st) .nilIface → Buf r w' B cur → K a' w') :
    ∀ a, Fr r a → Code.wp Tryd.prog (sndS (thnS (sndS (fstS (sndS (sndS (inBlk (bodyOf Tryd.f13)))))))) (Exit.then K Q) a w := by
  obtain ⟨c0, c1, c2, c3, c4, c5, c6, c7, ⟨emp, c8⟩, ⟨cal, c9⟩, c10, cf⟩ := hC.cells
  have HK := hide hK
  have HC := hide hC
  have HB := hide hB
  clear hC hB hK c0 c1 c2 c3 c4 c7 c8 c9 c10
  have e1 : (en : Int) - (st : Int) = ((en - st : Nat) : Int) := by omega
  refine fr_all ?_
  iterate 332 intro _
  show Code.wp _ _ _ _ _
  conv => arg 2; whnf
  go_wp2_with fail
  go_region
  go_wp2_with fail
  exact HK.out _ _ ⟨_, rfl, rfl⟩ (((HC.out.drewN 1).setEn (en - st)).setSt 0) (((HB.out.drewN 1).set _ _).set _ _)

set_option maxRecDepth 100000 in
set_option maxHeartbeats 4000000 in
/-- The shift, whole. -/
theorem s2_shift {B L : Nat} {cur : List UInt8} (hC : Core r S mx w0 w pos tok (.slice (some ⟨B, 0, none⟩) L L) st en .nilIface) (hB : Buf r w B cur) (hcL : L = cur.length) (h0 : 0 < st) (h1 : st ≤ en) (h2 : en ≤ L) (h3 : en = L ∨ L / 2 < st) (hL : L ≤ 4294967296)
    (hK : ∀ a' w', Fr r a' → Core r S mx w0 w' pos tok (.slice (some ⟨B, 0, none⟩) L L) 0 (en - st) .nilIface → Buf r w' B ((cur.take en).drop st ++ cur.drop (en - st)) → K a' w') :
    ∀ a, Fr r a → Code.wp Tryd.prog (fstS (sndS (sndS (inBlk (bodyOf Tryd.f13))))) (Exit.then K Q) a w := by
  obtain ⟨c0, c1, c2, c3, c4, c5, c6, c7, ⟨emp, c8⟩, ⟨cal, c9⟩, c10, cf⟩ := hC.cells
  have HD : Hid (∀ n a, Fr r a → Code.wp Tryd.prog (thnS (sndS (fstS (sndS (sndS (inBlk (bodyOf Tryd.f13))))))) (Exit.then K Q) a (w.drewN n)) := fun n a ha => by
    refine wp_seq (x := fstS (thnS (sndS (fstS (sndS (sndS (inBlk (bodyOf Tryd.f13)))))))) (y := sndS (thnS (sndS (fstS (sndS (sndS (inBlk (bodyOf Tryd.f13)))))))) ?_
    exact shift_copy (hC.drewN n) (hB.drewN n) hcL h1 h2 (fun a' w' hF hC' hB' => shift_end hC' hB' h1 (by omega) hK a' hF) a ha
  clear hC hB hK hcL c0 c1 c2 c3 c7 c8 c9 c10 cf
  refine fr_all ?_
  iterate 332 intro _
  show Code.wp _ _ _ _ _
  conv => arg 2; whnf
  have g0 : (0 : Int) < (st : Int) := by omega
  by_cases hf : en = L
  · have g1 : ((en : Int) == (L : Int)) = true := by rw [beq_iff_eq]; omega
    clear h3 hf
    go_wp2_with fail
    go_quiet (fail)
    go_upto_if 153 with fail
    refine wp_cond (t := true) rfl ?_
    rw [if_pos rfl]
    refine HD.out _ _ ?_
    exact ⟨_, rfl, rfl⟩
  · have g1 : ((en : Int) == (L : Int)) = false := by rw [beq_eq_false_iff_ne]; omega
    have g2 : (L : Int) / 2 < (st : Int) := by omega
    clear h3 hf
    go_wp2_with fail
    go_quiet (fail)
    go_upto_if 153 with fail
    refine wp_cond (t := true) rfl ?_
    rw [if_pos rfl]
    refine HD.out _ _ ?_
    exact ⟨_, rfl, rfl⟩
end
end Go.Proofs.Qxb6615772aDoor.fnDec
