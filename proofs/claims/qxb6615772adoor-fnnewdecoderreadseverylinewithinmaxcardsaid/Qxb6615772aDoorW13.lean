import Derived.Test.Qxb6615772aDoorW12
namespace Go.Proofs.Qxb6615772aDoor.fnDec
open Go.RowKit

section
variable {r : Nat} {S : List UInt8} {mx : Int} {w0 : World} {p k : Nat} {aE aT : Addr} {R : Exit → Act → World → Prop}

theorem calls_same {f : FuncId} {args : Array Value} {w : World} {v : Value} (h : Calls Tryd.prog f args w fun e w' => e = .returned v ∧ w = w') : Calls Tryd.prog f args w fun e w' => e = .returned v ∧ w' = w :=
  h.mono fun _ _ ⟨a, b⟩ => ⟨a, b.symm⟩

/-- A token is handed out. -/
theorem got {st en adv : Nat} {cur l t : List UInt8} {B c : Nat} {eof : Bool} {w : World} (hC : Core r S mx w0 w (p + (en - st)) (.slice (some ⟨B, st, none⟩) (cr l).length c) (bufV B cur.length) (st + adv) en (if eof = true then .iface 58 (.pointer (some aE)) else .nilIface))
    (hB : Buf r w B cur) (hD : Dat S mx p st en cur eof) (ha : st + adv ≤ en) (hx : (cur.take en).drop st = l ++ t) (hl : ln (S.drop p) = l) (hn : nxt S p = p + adv) (hL : cur.length ≤ 4294967296) : Got r S mx w0 (.iface 58 (.pointer (some aE))) p w := by
  refine ⟨st + adv, en, cur, B, eof, st, c, ?_, fun _ => hB, ?_, hL, ?_⟩
  · rw [hl, hn]
    have : p + adv + (en - (st + adv)) = p + (en - st) := by omega
    rw [this]
    exact hC
  · rw [hn]; exact dat_adv hD adv ha
  · rw [hl]
    obtain ⟨t', ht⟩ := cr_prefix l
    refine dat_prefix hD hB (t := t' ++ t) ?_
    rw [hx]
    conv => lhs; rw [ht]
    rw [List.append_assoc]

theorem round (hS : S.length ≤ 1048576) (hr : 4 < r) (hE : w0.cell? ⟨4, 0, none⟩ = some (.iface 58 (.pointer (some aE)))) (hT : w0.cell? ⟨1, 0, none⟩ = some (.iface 58 (.pointer (some aT)))) (hp : p ≤ S.length)
    (hR : ∀ a' w' k', Fr r a' → k' < k → Inv r S mx w0 (.iface 58 (.pointer (some aE))) p k' w' → R .normal a' w')
    (hQ : ∀ b a' w', FrB r b a' → ScanPost r S mx w0 (.iface 58 (.pointer (some aE))) (.iface 58 (.pointer (some aT))) p b w' → R .ret a' w')
    {w : World} (hI : Inv r S mx w0 (.iface 58 (.pointer (some aE))) p k w) : ∀ a, Fr r a → Code.wp Tryd.prog (inBlk (bodyOf Tryd.f13)) R a w := by
  intro a ha
  refine wp_seq (x := fstS (inBlk (bodyOf Tryd.f13))) (y := sndS (inBlk (bodyOf Tryd.f13))) ?_
  obtain ⟨st, en, cur, B, tok, eof, hC, hB, hD, hL, hk⟩ := hI
  have hDD := hD
  have hdl := dat_len hD
  obtain ⟨d1, d2, d3, d4, d5, d6⟩ := hD
  by_cases hse : st = en
  · subst hse
    cases eof
    · -- nothing there, no error
      rw [if_neg (by simp)] at hC hk
      refine s0_A hC (fun a' w' hf ⟨n, hw⟩ => ?_) a ha
      subst hw
      refine rest1 hS hr hE hT hR hQ (hC.drewN n) (fun h => (hB h).drewN n) hDD ?_ hL hk a' hf
      rw [List.length_eq_zero_iff.1 (show ((cur.take st).drop st).length = 0 by rw [hdl]; omega)]
      simp
    · -- nothing there, the end
      obtain ⟨e1, e2, e3⟩ := d6 rfl
      have hc0 : cur.length ≠ 0 := by omega
      rw [if_pos rfl, bufV_pos hc0] at hC
      refine s0_D hC (hB hc0) e3 hL (fun a' w' hf hC' hB' => ?_) a ha
      refine wp_seq (x := fstS (sndS (inBlk (bodyOf Tryd.f13)))) (y := sndS (sndS (inBlk (bodyOf Tryd.f13)))) ?_
      exact s1_eof hC' (fun a' w' hf hC'' => hQ false a' w' hf (Or.inr (Or.inr ⟨by omega, by omega, rfl, _, _, _, _, _, hC''⟩))) a' hf
  · have hlt : st < en := by omega
    have hc0 : cur.length ≠ 0 := by omega
    have hb := hB hc0
    by_cases hnl : (10 : UInt8) ∈ (cur.take en).drop st
    · -- a newline
      obtain ⟨l, t, hx, hl⟩ := split_nl _ hnl
      have hxl : l.length + 1 ≤ en - st := by rw [← hdl, hx]; simp
      obtain ⟨q1, q2⟩ := line_in (by rw [← d4]; exact hx) hl
      have hpN : p < S.length := by omega
      have hmx : ((ln (S.drop p)).length : Int) + 1 ≤ mx := by rw [q1]; omega
      rw [bufV_pos hc0] at hC
      have hH : Holds w B st (l ++ 10 :: t) := dat_prefix hDD hb (t := []) (by simpa using hx)
      refine s0_T (b := eof) (adv := l.length + 1) (m := (cr l).length) (c := cur.length - st) hC hb (fun n => ?_) ?_ (by omega) (by omega) d2 hL (fun a' w' hf hC' hB' => hQ true a' w' hf (Or.inl ⟨hpN, hmx, rfl, ?_⟩)) a ha
      · exact calls_same (lines_nl B st (en - st) (cur.length - st) l t eof (w.drewN n) (by rw [← hx, hdl]) hH hl (by omega) (by omega))
      · cases eof
        · exact Or.inl ⟨if_neg (by simp), rfl⟩
        · exact Or.inr ⟨_, _, if_pos rfl, rfl⟩
      · refine got (adv := l.length + 1) (t := 10 :: t) (c := cur.length - st) ?_ hB' hDD (by omega) hx q1 (by rw [q2]; omega) hL
        rw [bufV_pos hc0]
        exact hC'
    · cases eof
      · -- no newline, more may come
        rw [if_neg (by simp)] at hC hk
        have hC2 := hC
        rw [bufV_pos hc0] at hC2
        have hH : Holds w B st ((cur.take en).drop st) := dat_prefix hDD hb (t := []) (by simp)
        refine s0_C hC2 hb hdl hH hnl hlt d2 hL (fun a' w' hf hC' hB' => ?_) a ha
        refine rest1 (tok := .slice none 0 0) hS hr hE hT hR hQ ?_ (fun _ => hB') hDD hnl hL hk a' hf
        rw [bufV_pos hc0]
        exact hC'
      · -- the last line
        obtain ⟨e1, e2, e3⟩ := d6 rfl
        have hall : (cur.take en).drop st = S.drop p := by
          rw [d4, List.take_of_length_le (by simp; omega)]
        rw [hall] at hnl
        have q1 := ln_none _ hnl
        have q2 : nxt S p = p + (en - st) := by unfold nxt; rw [if_neg hnl]; omega
        have hlen : (S.drop p).length = en - st := by rw [← hall]; exact hdl
        have hmx : ((ln (S.drop p)).length : Int) + 1 ≤ mx := by rw [q1, List.length_drop]; exact e2
        rw [if_pos rfl] at hC
        have hC2 := hC
        rw [bufV_pos hc0] at hC2
        have hH : Holds w B st (S.drop p) := dat_prefix hDD hb (t := []) (by simpa using hall)
        refine s0_T (b := true) (adv := en - st) (m := (cr (S.drop p)).length) (c := cur.length - st) hC2 hb (fun n => ?_) (Or.inr ⟨_, _, rfl, rfl⟩) (by omega) (by omega) d2 hL (fun a' w' hf hC' hB' => hQ true a' w' hf (Or.inl ⟨by omega, hmx, rfl, ?_⟩)) a ha
        · exact calls_same (lines_last B st (en - st) (cur.length - st) (S.drop p) (w.drewN n) hlen hH hnl (by omega) (by omega) (by omega))
        · refine got (adv := en - st) (t := []) (c := cur.length - st) (eof := true) ?_ hB' hDD (by omega) (by simpa using hall) q1 q2 hL
          rw [bufV_pos hc0, if_pos rfl]
          exact hC'

/-- The loop. -/
theorem loop_any (hS : S.length ≤ 1048576) (hr : 4 < r) (hE : w0.cell? ⟨4, 0, none⟩ = some (.iface 58 (.pointer (some aE)))) (hT : w0.cell? ⟨1, 0, none⟩ = some (.iface 58 (.pointer (some aT)))) (hp : p ≤ S.length)
    (hQ : ∀ b a' w', FrB r b a' → ScanPost r S mx w0 (.iface 58 (.pointer (some aE))) (.iface 58 (.pointer (some aT))) p b w' → R .ret a' w')
    {w : World} {a : Act} (ha : Fr r a) (hI : Inv r S mx w0 (.iface 58 (.pointer (some aE))) p k w) : Code.wp Tryd.prog (Code.loop (bodyOf Tryd.f13)) R a w := by
  refine wp_loop_ghost (fun n a w => Fr r a ∧ Inv r S mx w0 (.iface 58 (.pointer (some aE))) p n w) k ⟨ha, hI⟩ ?_
  rintro n a w ⟨ha, hI⟩
  refine wp_block (id := 1) (c := inBlk (bodyOf Tryd.f13)) ?_
  refine round hS hr hE hT hp (fun a' w' k' hf hk hI' => ?_) (fun b a' w' hf hs => ?_) hI a ha
  · exact (⟨k', hk, hf, hI'⟩ : ∃ n', n' < n ∧ Fr r a' ∧ Inv r S mx w0 (.iface 58 (.pointer (some aE))) p n' w')
  · exact hQ b a' w' hf hs

set_option maxRecDepth 100000 in
set_option maxHeartbeats 4000000 in
/-- (*bufio.Scanner).Scan -/
theorem scan_any (hS : S.length ≤ 1048576) (hr : 4 < r) (hE : w0.cell? ⟨4, 0, none⟩ = some (.iface 58 (.pointer (some aE)))) (hT : w0.cell? ⟨1, 0, none⟩ = some (.iface 58 (.pointer (some aT)))) (hp : p ≤ S.length)
    {w : World} (hI : Inv r S mx w0 (.iface 58 (.pointer (some aE))) p k w) :
    Calls Tryd.prog 13 #[.pointer (some ⟨r + 1, 0, none⟩)] w fun e w' => ∃ b, e = .returned (.bool b) ∧ ScanPost r S mx w0 (.iface 58 (.pointer (some aE))) (.iface 58 (.pointer (some aT))) p b w' := by
  have HL : Hid (∀ (R : Exit → Act → World → Prop) (w : World) (a : Act), (∀ b a' w', FrB r b a' → ScanPost r S mx w0 (.iface 58 (.pointer (some aE))) (.iface 58 (.pointer (some aT))) p b w' → R .ret a' w') → Fr r a → Inv r S mx w0 (.iface 58 (.pointer (some aE))) p k w → Code.wp Tryd.prog (Code.loop (bodyOf Tryd.f13)) R a w) :=
    fun R w a hQ ha hI => loop_any hS hr hE hT hp hQ ha hI
  obtain ⟨st, en, cur, B, tok, eof, hC, hB, hD, hL, hk⟩ := hI
  obtain ⟨c0, c1, c2, c3, c4, c5, c6, c7, ⟨emp, c8⟩, ⟨cal, c9⟩, c10, cf⟩ := hC.cells
  have HI : Hid (Inv r S mx w0 (.iface 58 (.pointer (some aE))) p k (w.setCell ⟨r + 1, 9, none⟩ (.bool true))) :=
    ⟨st, en, cur, B, tok, eof, hC.setCal true, fun h => (hB h).set 9 _, hD, hL, hk⟩
  clear hC hB hD hk hL c0 c1 c2 c3 c4 c5 c6 c7 c8 hE hT
  go_enter Tryd.func13, Tryd.ntmps13
  go_wp2_with fail
  refine HL.out _ _ _ (fun b a' w' hf hs => ?_) ?_ HI.out
  · obtain ⟨l, hl, rfl⟩ := hf
    have key : bodyPost Tryd.prog Tryd.f13 (fun e w' => ∃ b, e = .returned (.bool b) ∧ ScanPost r S mx w0 (.iface 58 (.pointer (some aE))) (.iface 58 (.pointer (some aT))) p b w') .ret ⟨(.pointer (some ⟨r + 1, 0, none⟩) :: undef :: .bool b :: l).toArray, []⟩ w' := by
      refine bodyPost_ret (v := .bool b) ?_ rfl ⟨b, rfl, hs⟩
      simp [results, Tryd.results13, go_sem]
    exact key
  · exact ⟨_, rfl, rfl⟩
end
end Go.Proofs.Qxb6615772aDoor.fnDec
