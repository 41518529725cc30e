import Derived.Test.Qxb6615772aDoorW6
import Derived.Test.Qxb6615772aDoorW8
import Derived.Test.Qxb6615772aDoorW9
import Derived.Test.Qxb6615772aDoorW10
import Derived.Test.Qxb6615772aDoorW11
namespace Go.Proofs.Qxb6615772aDoor.fnDec
open Go.RowKit

def a0f (B L : Nat) : Option Addr := if L = 0 then none else some ⟨B, 0, none⟩
theorem bufV_eq (B L : Nat) : bufV B L = .slice (a0f B L) L L := by
  unfold bufV a0f
  split <;> simp_all
theorem bufV_pos {B L : Nat} (h : L ≠ 0) : bufV B L = .slice (some ⟨B, 0, none⟩) L L := by simp [bufV, h]
theorem a0f_add (B L : Nat) : ∀ a, a0f B L = some a → a.add 0 = a := by
  intro a h
  unfold a0f at h
  split at h
  · cases h
  · cases h; rfl

def Inv (r : Nat) (S : List UInt8) (mx : Int) (w0 : World) (E : Value) (p k : Nat) (w : World) : Prop :=
  ∃ st en cur B tok eof, Core r S mx w0 w (p + (en - st)) tok (bufV B cur.length) st en (if eof = true then E else .nilIface) ∧ (cur.length ≠ 0 → Buf r w B cur) ∧ Dat S mx p st en cur eof ∧ cur.length ≤ 4294967296 ∧ k = (S.length - (p + (en - st))) + (if eof = true then 0 else 1)

def Got (r : Nat) (S : List UInt8) (mx : Int) (w0 : World) (E : Value) (p : Nat) (w : World) : Prop :=
  ∃ st en cur B eof o c, Core r S mx w0 w (nxt S p + (en - st)) (.slice (some ⟨B, o, none⟩) (cr (ln (S.drop p))).length c) (bufV B cur.length) st en (if eof = true then E else .nilIface) ∧ (cur.length ≠ 0 → Buf r w B cur) ∧ Dat S mx (nxt S p) st en cur eof ∧ cur.length ≤ 4294967296 ∧
    Holds w B o (cr (ln (S.drop p)))

def ScanPost (r : Nat) (S : List UInt8) (mx : Int) (w0 : World) (E T : Value) (p : Nat) (b : Bool) (w : World) : Prop :=
  (p < S.length ∧ ((ln (S.drop p)).length : Int) + 1 ≤ mx ∧ b = true ∧ Got r S mx w0 E p w) ∨
  ((p < S.length ∧ mx < ((ln (S.drop p)).length : Int) + 1 ∨ p = S.length ∧ mx < 1) ∧ b = false ∧ ∃ pos tok buf st en, Core r S mx w0 w pos tok buf st en T) ∨
  (p = S.length ∧ 1 ≤ mx ∧ b = false ∧ ∃ pos tok buf st en, Core r S mx w0 w pos tok buf st en E)

theorem wp_then {c : Code} {K : Act → World → Prop} {R : Exit → Act → World → Prop} {a : Act} {w : World} (h : c.wp Tryd.prog (Exit.then K R) a w) (hk : ∀ a w, K a w → R .normal a w) : c.wp Tryd.prog R a w :=
  wp_mono h (fun e a w hq => by
    cases e with
    | normal => exact hk _ _ hq
    | exit id => exact hq
    | goto l => exact hq
    | ret => exact hq
    | panic ch => exact hq
    | outgrown => exact hq)

section
variable {r : Nat} {S : List UInt8} {mx : Int} {w0 : World} {p k : Nat} {aE aT : Addr} {R : Exit → Act → World → Prop}

/-- From the read on. -/
theorem rest3 (hS : S.length ≤ 1048576) (hr : 4 < r) (hE : w0.cell? ⟨4, 0, none⟩ = some (.iface 58 (.pointer (some aE))))
    (hR : ∀ a' w' k', Fr r a' → k' < k → Inv r S mx w0 (.iface 58 (.pointer (some aE))) p k' w' → R .normal a' w')
    {st en : Nat} {cur : List UInt8} {B : Nat} {tok : Value} {w : World} (hC : Core r S mx w0 w (p + (en - st)) tok (bufV B cur.length) st en .nilIface) (hB : cur.length ≠ 0 → Buf r w B cur) (hD : Dat S mx p st en cur false) (he : en < cur.length) (hL : cur.length ≤ 4294967296)
    (hk : k = (S.length - (p + (en - st))) + 1) : ∀ a, Fr r a → Code.wp Tryd.prog (sndS (sndS (sndS (sndS (inBlk (bodyOf Tryd.f13)))))) R a w := by
  intro a ha
  have h0 : cur.length ≠ 0 := by omega
  have hb := hB h0
  rw [bufV_pos h0] at hC
  have hlt := hC.lt
  by_cases hp : p + (en - st) < S.length
  · have hn1 : Nat.min (S.length - (p + (en - st))) (cur.length - en) ≤ S.length - (p + (en - st)) := Nat.min_le_left _ _
    have hn2 : Nat.min (S.length - (p + (en - st))) (cur.length - en) ≤ cur.length - en := Nat.min_le_right _ _
    have hn3 : 1 ≤ Nat.min (S.length - (p + (en - st))) (cur.length - en) := by show 1 ≤ min _ _; omega
    generalize hn : Nat.min (S.length - (p + (en - st))) (cur.length - en) = n at *
    obtain ⟨hD', hlen⟩ := dat_read hD n hn1 hn2
    refine wp_then (K := fun a' w' => ∃ k', Fr r a' ∧ k' < k ∧ Inv r S mx w0 (.iface 58 (.pointer (some aE))) p k' w') ?_ (fun a' w' ⟨k', h1, h2, h3⟩ => hR a' w' k' h1 h2 h3)
    refine x3_data hC hb rfl he hL hp hS hn.symm (fun a' w' hf hC' hB' => ?_) a ha
    have h1 := hD.1
    have e1 : p + (en + n - st) = p + (en - st) + n := by omega
    refine ⟨(S.length - (p + (en + n - st))) + 1, hf, by omega, st, en + n, _, B, tok, false, ?_, fun _ => hB', hD', by rw [hlen]; exact hL, by simp⟩
    rw [hlen, bufV_pos h0, e1]
    exact hC'
  · have hg : w.cell? ⟨4, 0, none⟩ = some (.iface 58 (.pointer (some aE))) := by rw [hC.below.cell (p := ⟨4, 0, none⟩) hr]; exact hE
    refine wp_then (K := fun a' w' => ∃ k', Fr r a' ∧ k' < k ∧ Inv r S mx w0 (.iface 58 (.pointer (some aE))) p k' w') ?_ (fun a' w' ⟨k', h1, h2, h3⟩ => hR a' w' k' h1 h2 h3)
    refine x3_eof hC hb he hL hg (by omega) (fun a' w' hf hC' hB' => ?_) a ha
    refine ⟨S.length - (p + (en - st)), hf, by omega, st, en, cur, B, tok, true, ?_, fun _ => hB', dat_eof hD (by omega) he, hL, by simp⟩
    rw [bufV_pos h0]
    exact hC'

/-- From 'is the buffer full' on. -/
theorem rest2 (hS : S.length ≤ 1048576) (hr : 4 < r) (hE : w0.cell? ⟨4, 0, none⟩ = some (.iface 58 (.pointer (some aE)))) (hT : w0.cell? ⟨1, 0, none⟩ = some (.iface 58 (.pointer (some aT))))
    (hR : ∀ a' w' k', Fr r a' → k' < k → Inv r S mx w0 (.iface 58 (.pointer (some aE))) p k' w' → R .normal a' w')
    (hQ : ∀ b a' w', FrB r b a' → ScanPost r S mx w0 (.iface 58 (.pointer (some aE))) (.iface 58 (.pointer (some aT))) p b w' → R .ret a' w')
    {st en : Nat} {cur : List UInt8} {B : Nat} {tok : Value} {w : World} (hC : Core r S mx w0 w (p + (en - st)) tok (bufV B cur.length) st en .nilIface) (hB : cur.length ≠ 0 → Buf r w B cur) (hD : Dat S mx p st en cur false)
    (h10 : (10 : UInt8) ∉ (cur.take en).drop st) (hfull : en = cur.length → st = 0) (hL : cur.length ≤ 4294967296)
    (hk : k = (S.length - (p + (en - st))) + 1) : ∀ a, Fr r a → Code.wp Tryd.prog (sndS (sndS (sndS (inBlk (bodyOf Tryd.f13))))) R a w := by
  intro a ha
  refine wp_seq (x := fstS (sndS (sndS (sndS (inBlk (bodyOf Tryd.f13)))))) (y := sndS (sndS (sndS (sndS (inBlk (bodyOf Tryd.f13)))))) ?_
  have hDD := hD
  obtain ⟨d1, d2, d3, d4, d5, -⟩ := hD
  rw [bufV_eq] at hC
  by_cases he : en < cur.length
  · refine s3_room hC he (fun a' n hf => ?_) a ha
    refine rest3 (tok := tok) hS hr hE hR ?_ (fun h => (hB h).drewN n) hDD he hL hk a' hf
    rw [bufV_eq]
    exact hC.drewN n
  · have heL : en = cur.length := by omega
    obtain rfl := hfull heL
    subst heL
    have hlen : cur.length ≤ S.length := by omega
    by_cases hm : mx ≤ (cur.length : Int)
    · have hg : w.cell? ⟨1, 0, none⟩ = some (.iface 58 (.pointer (some aT))) := by rw [hC.below.cell (p := ⟨1, 0, none⟩) (by show 1 < r; omega)]; exact hT
      refine s3_long hC hm hg (fun a' w' hf hC' => hQ false a' w' hf (Or.inr (Or.inl ⟨?_, rfl, _, _, _, _, _, hC'⟩))) a ha
      rw [d4] at h10
      have := line_out h10 (by omega)
      by_cases hp : p < S.length
      · exact Or.inl ⟨hp, by omega⟩
      · exact Or.inr ⟨by omega, by omega⟩
    · obtain ⟨n, hn⟩ : ∃ n : Nat, (n : Int) = if mx < (if cur.length = 0 then 4096 else (cur.length : Int) * 2) then mx else (if cur.length = 0 then 4096 else (cur.length : Int) * 2) := by
        refine ⟨(if mx < (if cur.length = 0 then 4096 else (cur.length : Int) * 2) then mx else (if cur.length = 0 then 4096 else (cur.length : Int) * 2)).toNat, Int.toNat_of_nonneg ?_⟩
        split
        · omega
        · split <;> omega
      have hn1 : cur.length < n ∧ (n : Int) ≤ mx ∧ n ≤ 4294967296 := by
        by_cases hz : cur.length = 0
        · rw [if_pos hz] at hn
          split at hn <;> omega
        · rw [if_neg hz] at hn
          split at hn <;> omega
      obtain ⟨hD', hlen'⟩ := dat_grow hDD n (by omega) hn1.2.1
      refine s3_grow hC rfl (fun h => ⟨by simp [a0f, h], hB h⟩) (a0f_add B _) (by omega) (by omega) hn (fun a' w' B' hf hC' hB' => ?_) a ha
      refine rest3 (tok := tok) hS hr hE hR ?_ (fun _ => hB') hD' (by omega) (by omega) hk a' hf
      rw [hlen', bufV_pos (by omega)]
      exact hC'

/-- From 'if s.err != nil' on, where there is no error. -/
theorem rest1 (hS : S.length ≤ 1048576) (hr : 4 < r) (hE : w0.cell? ⟨4, 0, none⟩ = some (.iface 58 (.pointer (some aE)))) (hT : w0.cell? ⟨1, 0, none⟩ = some (.iface 58 (.pointer (some aT))))
    (hR : ∀ a' w' k', Fr r a' → k' < k → Inv r S mx w0 (.iface 58 (.pointer (some aE))) p k' w' → R .normal a' w')
    (hQ : ∀ b a' w', FrB r b a' → ScanPost r S mx w0 (.iface 58 (.pointer (some aE))) (.iface 58 (.pointer (some aT))) p b w' → R .ret a' w')
    {st en : Nat} {cur : List UInt8} {B : Nat} {tok : Value} {w : World} (hC : Core r S mx w0 w (p + (en - st)) tok (bufV B cur.length) st en .nilIface) (hB : cur.length ≠ 0 → Buf r w B cur) (hD : Dat S mx p st en cur false)
    (h10 : (10 : UInt8) ∉ (cur.take en).drop st) (hL : cur.length ≤ 4294967296)
    (hk : k = (S.length - (p + (en - st))) + 1) : ∀ a, Fr r a → Code.wp Tryd.prog (sndS (inBlk (bodyOf Tryd.f13))) R a w := by
  intro a ha
  refine wp_seq (x := fstS (sndS (inBlk (bodyOf Tryd.f13)))) (y := sndS (sndS (inBlk (bodyOf Tryd.f13)))) ?_
  refine s1_nil hC (fun a' hf => ?_) a ha
  refine wp_seq (x := fstS (sndS (sndS (inBlk (bodyOf Tryd.f13))))) (y := sndS (sndS (sndS (inBlk (bodyOf Tryd.f13))))) ?_
  have hDD := hD
  obtain ⟨d1, d2, d3, d4, d5, -⟩ := hD
  by_cases h0 : st = 0
  · subst h0
    refine s2_zero hC (fun a' n hf => ?_) a' hf
    exact rest2 hS hr hE hT hR hQ (hC.drewN n) (fun h => (hB h).drewN n) hDD h10 (fun _ => rfl) hL hk a' hf
  · have hc0 : cur.length ≠ 0 := by omega
    by_cases hs : en < cur.length ∧ st ≤ cur.length / 2
    · have hC2 := hC
      rw [bufV_pos hc0] at hC2
      refine s2_stay hC2 (by omega) hs.1 hs.2 hL (fun a' n hf => ?_) a' hf
      exact rest2 hS hr hE hT hR hQ (hC.drewN n) (fun h => (hB h).drewN n) hDD h10 (fun h => absurd h (by omega)) hL hk a' hf
    · have hC2 := hC
      rw [bufV_pos hc0] at hC2
      obtain ⟨hD', hlen'⟩ := dat_shift hDD
      have hl := dat_len hDD
      refine s2_shift hC2 (hB hc0) rfl (by omega) d1 d2 (by omega) hL (fun a' w' hf hC' hB' => ?_) a' hf
      refine rest2 (tok := tok) hS hr hE hT hR hQ ?_ (fun _ => hB') hD' ?_ (fun h => rfl) (by rw [hlen']; exact hL) (by simpa using hk) a' hf
      · rw [hlen', bufV_pos hc0]
        simpa using hC'
      · rw [List.drop_zero, List.take_append_of_le_length (by rw [hl]; exact Nat.le_refl _), List.take_of_length_le (by rw [hl]; exact Nat.le_refl _)]
        exact h10
end
end Go.Proofs.Qxb6615772aDoor.fnDec
