import Derived.Test.Qxb6615772aDoorW14
namespace Go.Proofs.Qxb6615772aDoor.fnDec
open Go.RowKit

/-- What holds at the head of the law's loop: q is the place of the next line. -/
def LI (r : Nat) (S : List UInt8) (mx : Int) (w0 : World) (E : Value) (q : Nat) (w : World) : Prop := q ≤ S.length + 1 ∧ (∃ k, Inv r S mx w0 E (min q S.length) k w) ∧ (q = 0 ∨ 1 ≤ mx)

theorem scan_fit {r : Nat} {S : List UInt8} {mx : Int} {w0 w : World} {E T : Value} {p : Nat} {b : Bool} (h : ScanPost r S mx w0 E T p b w) (hp : p < S.length) (hm : ((ln (S.drop p)).length : Int) + 1 ≤ mx) : b = true ∧ Got r S mx w0 E p w := by
  rcases h with ⟨_, _, h3, h4⟩ | ⟨h1 | h1, _⟩ | ⟨h1, _⟩
  · exact ⟨h3, h4⟩
  · omega
  · omega
  · omega
theorem scan_long {r : Nat} {S : List UInt8} {mx : Int} {w0 w : World} {E T : Value} {p : Nat} {b : Bool} (h : ScanPost r S mx w0 E T p b w) (hp : p < S.length) (hm : ¬ ((ln (S.drop p)).length : Int) + 1 ≤ mx) : b = false ∧ ∃ pos tok buf st en, Core r S mx w0 w pos tok buf st en T := by
  rcases h with ⟨_, h2, _⟩ | ⟨_, h3, h4⟩ | ⟨h1, _⟩
  · omega
  · exact ⟨h3, h4⟩
  · omega
theorem scan_end {r : Nat} {S : List UInt8} {mx : Int} {w0 w : World} {E T : Value} {p : Nat} {b : Bool} (h : ScanPost r S mx w0 E T p b w) (hp : p = S.length) : b = false ∧ ((1 ≤ mx ∧ ∃ pos tok buf st en, Core r S mx w0 w pos tok buf st en E) ∨ (mx < 1 ∧ ∃ pos tok buf st en, Core r S mx w0 w pos tok buf st en T)) := by
  rcases h with ⟨h1, _⟩ | ⟨h1 | h1, h3, h4⟩ | ⟨_, h2, h3, h4⟩
  · omega
  · omega
  · exact ⟨h3, Or.inr ⟨h1.2, h4⟩⟩
  · exact ⟨h3, Or.inl ⟨h2, h4⟩⟩

/-- Where a line ends. -/
theorem line_facts (S : List UInt8) (q : Nat) (hq : q < S.length) : q + (ln (S.drop q)).length ≤ S.length ∧ (∀ j (h : j < S.length), q ≤ j → j < q + (ln (S.drop q)).length → (⟨S.toArray⟩ : ByteArray)[j]'h ≠ 10) ∧
    (∀ h : q + (ln (S.drop q)).length < S.length, (⟨S.toArray⟩ : ByteArray)[q + (ln (S.drop q)).length]'h = 10) ∧ (S.take (q + (ln (S.drop q)).length)).drop q = ln (S.drop q) ∧ min (q + (ln (S.drop q)).length + 1) S.length = nxt S q := by
  have key : ∃ t, S.drop q = ln (S.drop q) ++ t ∧ (t = [] ∨ ∃ m, t = 10 :: m) ∧ (10 : UInt8) ∉ ln (S.drop q) := by
    by_cases h : (10 : UInt8) ∈ S.drop q
    · obtain ⟨l, m, e, hl⟩ := split_nl _ h
      rw [e, ln_nl l m hl]
      exact ⟨10 :: m, rfl, Or.inr ⟨m, rfl⟩, hl⟩
    · rw [ln_none _ h]
      exact ⟨[], by simp, Or.inl rfl, h⟩
  obtain ⟨t, e, ht, hn⟩ := key
  have hlen : (S.drop q).length = (ln (S.drop q)).length + t.length := by
    conv => lhs; rw [e]
    simp
  rw [List.length_drop] at hlen
  have hget : ∀ j (h : j < S.length) (hj : q ≤ j), (⟨S.toArray⟩ : ByteArray)[j]'h = (S.drop q)[j - q]'(by simp; omega) := fun j h hj => by
    have e1 : (⟨S.toArray⟩ : ByteArray)[j]'h = S[j]'h := rfl
    rw [e1, List.getElem_drop]
    congr 1
    omega
  have hsplit : ∀ (i : Nat) (h : i < (S.drop q).length), (S.drop q)[i]'h = (ln (S.drop q) ++ t)[i]'(by rw [← e]; exact h) := fun i h => by
    congr 1
  refine ⟨by omega, fun j h hj hj2 => ?_, fun h => ?_, ?_, ?_⟩
  · rw [hget j h hj, hsplit, List.getElem_append_left (by omega)]
    intro hc
    exact hn (hc ▸ List.getElem_mem _)
  · rw [hget _ h (by omega), hsplit, List.getElem_append_right (by omega)]
    rcases ht with rfl | ⟨m, rfl⟩
    · simp at hlen; omega
    · simp
  · rw [List.drop_take]
    have : q + (ln (S.drop q)).length - q = (ln (S.drop q)).length := by omega
    rw [this]
    exact (congrArg (List.take (ln (S.drop q)).length) e).trans (by simp)
  · unfold nxt
    rcases ht with rfl | ⟨m, rfl⟩
    · rw [if_neg (by rw [e]; simpa using hn)]
      simp at hlen
      omega
    · rw [if_pos (by rw [e]; simp)]
      simp at hlen
      omega

set_option maxRecDepth 100000 in
set_option maxHeartbeats 4000000 in
theorem law_in (S : List UInt8) (mx : Int) (w : World) (hS : S.length ≤ 1048576) (h1 : -9223372036854775808 ≤ mx) (h2 : mx ≤ 9223372036854775807) (aE aT : Addr) (hr : 4 < w.heap.size)
    (hE : w.cell? ⟨4, 0, none⟩ = some (.iface 58 (.pointer (some aE)))) (hT : w.cell? ⟨1, 0, none⟩ = some (.iface 58 (.pointer (some aT)))) (hne : aT ≠ aE) (ca cb : Array Value) (ta tb : TypeId) (hb : w.heap[aT.block]? = some (.cells cb tb (0, 0))) (ha : w.heap[aE.block]? = some (.cells ca ta (0, 0))) :
    Calls Tryd.prog 3 #[.string ⟨S.toArray⟩, .int .i64 mx] w fun e w' => e = .returned (.bool true) ∧ Below w.heap.size w w' := by
  have hla : aE.block < w.heap.size := (Array.getElem?_eq_some_iff.1 ha).1
  have hlb : aT.block < w.heap.size := (Array.getElem?_eq_some_iff.1 hb).1
  have c5 : decide (S.length ≤ 1048576) = true := by simpa using hS
  have B4 : Hid (∀ w, Calls Tryd.prog 4 #[.string ⟨S.toArray⟩, .int .i64 mx] w fun e w' => e = .returned (.bool true) ∧ w = w') := fun w => by
    have := bytes_any ⟨S.toArray⟩ mx (by simp [ByteArray.size, maxLen]; omega) w
    have e : (⟨S.toArray⟩ : ByteArray).size = S.length := by simp [ByteArray.size]
    rw [e, c5] at this
    exact this
  have HI := hide (start_inv S w mx (.iface 58 (.pointer (some aE))))
  have HSC : Hid (∀ p k w', p ≤ S.length → Inv w.heap.size S mx w (.iface 58 (.pointer (some aE))) p k w' → Calls Tryd.prog 8 #[.pointer (some ⟨w.heap.size + 2, 0, none⟩)] w' fun e w' => ∃ b, e = .returned (.bool b) ∧ ScanPost w.heap.size S mx w (.iface 58 (.pointer (some aE))) (.iface 58 (.pointer (some aT))) p b w') := fun p k w' hp hI =>
    decScan hS hr hE hT hp hI
  have HER : Hid (∀ w' pos tok buf st en, Core w.heap.size S mx w w' pos tok buf st en (.iface 58 (.pointer (some aE))) → Calls Tryd.prog 9 #[.pointer (some ⟨w.heap.size + 2, 0, none⟩)] w' fun e w'' => e = .returned .nilIface ∧ Below w.heap.size w w'') := fun w' pos tok buf st en h =>
    decErr_eof hr hE h
  have HEL : Hid (∀ w' pos tok buf st en, Core w.heap.size S mx w w' pos tok buf st en (.iface 58 (.pointer (some aT))) → Calls Tryd.prog 9 #[.pointer (some ⟨w.heap.size + 2, 0, none⟩)] w' fun e w'' => e = .returned (.iface 58 (.pointer (some aT))) ∧ Below w.heap.size w w'') := fun w' pos tok buf st en h =>
    decErr_long hr hE hne ca cb ta tb hb ha hlb hla h
  have hSi : ¬ (1048576 : Int) < (S.length : Int) := by omega
  clear hE hT hne hb ha c5 hla hlb
  go_enter Tryd.func3, Tryd.ntmps3
  go_wp2_with fail
  refine (B4.out _).mono ?_
  rintro e w1 ⟨rfl, rfl⟩
  go_wp2_with fail
  refine (newDecoderOn _ _ _).mono ?_
  rintro e w1 ⟨rfl, hw1⟩
  have hI1 : Inv w.heap.size S mx w (.iface 58 (.pointer (some aE))) 0 (S.length + 1) w1 := by rw [hw1]; exact HI.out
  clear hw1 HI
  have HI := hide hI1
  obtain ⟨_, _, _, _, _, _, hC, -⟩ := hI1
  have HMX := hide (decMax hC)
  have HLN := hide (decLine hC)
  clear hC
  generalize hrr : w.heap.size = r at *
  go_wp2_with fail
  refine HMX.out.mono ?_
  rintro e w2 ⟨rfl, rfl⟩
  have g1 : (mx != mx) = false := by simp
  go_wp2_with fail
  refine HLN.out.mono ?_
  rintro e w2 ⟨rfl, rfl⟩
  go_wp2_with fail
  go_loopg [6] (S.length + 1) (fun k v wr => ∃ q : Nat, v = .int .i64 (q : Int) ∧ k = S.length + 1 - q ∧ LI r S mx w (.iface 58 (.pointer (some aE))) q wr)
  case atStart => exact ⟨0, rfl, by omega, by omega, ⟨_, by simpa using HI.out⟩, Or.inl rfl⟩
  case round =>
    obtain ⟨q, rfl, hk, hq⟩ := hrel
    obtain ⟨q1, ⟨kk, hI⟩, q2⟩ := hq
    clear HI HMX HLN g1
    by_cases hlt : q < S.length
    · rw [Nat.min_eq_left (by omega)] at hI
      obtain ⟨f1, f2, f3, f4, f5⟩ := line_facts S q hlt
      have HF4 := hide f4
      have HF5 := hide f5
      have HI := hide hI
      have HK := hide hk
      clear hI hk f4 f5
      generalize hl : (ln (S.drop q)).length = ℓ at f1 f2 f3
      have HL := hide hl
      clear hl
      have g0 : (q : Int) < (S.length : Int) := by omega
      by_cases hm : (ℓ : Int) + 1 ≤ mx
      · go_wp2_with fail
        go_loop [7] (fun v => ∃ j : Nat, q ≤ j ∧ j ≤ q + ℓ ∧ v = .int .i64 (j : Int)) (fun v => q + ℓ - (intOf v).toNat)
        case atStart => exact ⟨q, Nat.le_refl _, by omega, rfl⟩
        case round =>
          obtain ⟨j, j1, j2, rfl⟩ := hrel
          by_cases hj : j < q + ℓ
          · have hjN : j < S.length := by omega
            have hjI : (j : Int) < (S.length : Int) := by omega
            have hby : ((((⟨S.toArray⟩ : ByteArray)[j]'hjN).toNat : Int) != 10) = true := by
              rw [bne_iff_ne]; intro e; exact f2 j hjN j1 hj (UInt8.toNat_inj.1 (show _ = 10 by omega))
            have HM := hide hm
            clear f2 f3 hm
            go_wp2_with fail
            go_round
            case rel => exact ⟨j + 1, by omega, by omega, by go_num⟩
            case measure => simp [intOf]; omega
          · obtain rfl : j = q + ℓ := by omega
            have HF2 := hide f2
            clear f2
            by_cases hN : q + ℓ < S.length
            · have hby : ((((⟨S.toArray⟩ : ByteArray)[q + ℓ]'hN).toNat : Int) != 10) = false := by
                rw [f3 hN]; rfl
              have hNI : ((q + ℓ : Nat) : Int) < (S.length : Int) := by omega
              clear f3
              go_wp2_with fail
              refine (HSC.out q kk _ (by omega) HI.out).mono ?_
              rintro e w2 ⟨b, rfl, hs⟩
              obtain ⟨rfl, hg⟩ := scan_fit hs hlt (by rw [HL.out]; exact hm)
              obtain ⟨st, en, cur, B, eof, o, c, hC, hB, hD, hcl, hH⟩ := hg
              have HT := hide (decText hC hH)
              have HN : Hid (LI r S mx w (.iface 58 (.pointer (some aE))) (q + ℓ + 1) w2) := by
                refine ⟨by omega, ?_, Or.inr (by omega)⟩
                have e5 := HF5.out
                rw [HL.out] at e5
                rw [e5]
                exact ⟨_, st, en, cur, B, _, eof, hC, hB, hD, hcl, rfl⟩
              have hX := HF4.out
              rw [HL.out] at hX
              have hext : (⟨S.toArray⟩ : ByteArray).extract q (q + ℓ) = ⟨(ln (S.drop q)).toArray⟩ := by rw [bs_extract, hX]
              clear hs hC hB hD hcl hH hX HF4 HF5 HI HF2
              have hxl := HL.out
              generalize ln (S.drop q) = X at *
              subst hxl
              clear HL
              rcases List.eq_nil_or_concat X with rfl | ⟨l, cc, rfl⟩
              · go_wp2_with fail
                refine HT.out.mono ?_
                rintro e w3 ⟨rfl, rfl⟩
                go_wp2_with fail
                go_roundg (S.length + 1 - (q + 0 + 1))
                case measure => have := HK.out; omega
                case rel => exact ⟨q + 0 + 1, by go_num, rfl, HN.out⟩
              · rw [List.concat_eq_append] at *
                have f1' : q + (l.length + 1) ≤ S.length := by simpa using f1
                have hext' : (⟨S.toArray⟩ : ByteArray).extract q (q + (l.length + 1)) = ⟨(l ++ [cc]).toArray⟩ := by simpa using hext
                have HN' : Hid (LI r S mx w (.iface 58 (.pointer (some aE))) (q + (l.length + 1) + 1) w2) := hide (by simpa using HN.out)
                have hidx : (⟨(l ++ [cc]).toArray⟩ : ByteArray)[l.length]'(by simp [ByteArray.size]) = cc := by
                  have e : (⟨(l ++ [cc]).toArray⟩ : ByteArray)[l.length]'(by simp [ByteArray.size]) = (l ++ [cc])[l.length]'(by simp) := rfl
                  rw [e]; simp
                clear hext f1 HN
                by_cases hcc : cc = 13
                · subst hcc
                  have hcr : cr (l ++ [13]) = l := by rw [cr_snoc, if_pos rfl]
                  rw [hcr] at HT
                  have hx2 : (⟨(l ++ [13]).toArray⟩ : ByteArray).extract 0 l.length = ⟨l.toArray⟩ := by rw [bs_extract]; simp
                  go_wp2_with fail
                  refine HT.out.mono ?_
                  rintro e w3 ⟨rfl, rfl⟩
                  go_wp2_with fail
                  go_roundg (S.length + 1 - (q + (l.length + 1) + 1))
                  case measure => have := HK.out; omega
                  case rel => exact ⟨q + (l.length + 1) + 1, by go_num, rfl, HN'.out⟩
                · have hcr : cr (l ++ [cc]) = l ++ [cc] := by rw [cr_snoc, if_neg hcc]
                  rw [hcr] at HT
                  have hb13 : ((cc.toNat : Int) == 13) = false := by
                    rw [beq_eq_false_iff_ne]; intro e; exact hcc (UInt8.toNat_inj.1 (show _ = 13 by omega))
                  go_wp2_with fail
                  refine HT.out.mono ?_
                  rintro e w3 ⟨rfl, rfl⟩
                  go_wp2_with fail
                  go_roundg (S.length + 1 - (q + (l.length + 1) + 1))
                  case measure => have := HK.out; omega
                  case rel => exact ⟨q + (l.length + 1) + 1, by go_num, rfl, HN'.out⟩
            · have hNI : decide (((q + ℓ : Nat) : Int) < (S.length : Int)) = false := by simp; omega
              clear f3
              go_wp2_with fail
              refine (HSC.out q kk _ (by omega) HI.out).mono ?_
              rintro e w2 ⟨b, rfl, hs⟩
              obtain ⟨rfl, hg⟩ := scan_fit hs hlt (by rw [HL.out]; exact hm)
              obtain ⟨st, en, cur, B, eof, o, c, hC, hB, hD, hcl, hH⟩ := hg
              have HT := hide (decText hC hH)
              have HN : Hid (LI r S mx w (.iface 58 (.pointer (some aE))) (q + ℓ + 1) w2) := by
                refine ⟨by omega, ?_, Or.inr (by omega)⟩
                have e5 := HF5.out
                rw [HL.out] at e5
                rw [e5]
                exact ⟨_, st, en, cur, B, _, eof, hC, hB, hD, hcl, rfl⟩
              have hX := HF4.out
              rw [HL.out] at hX
              have hext : (⟨S.toArray⟩ : ByteArray).extract q (q + ℓ) = ⟨(ln (S.drop q)).toArray⟩ := by rw [bs_extract, hX]
              clear hs hC hB hD hcl hH hX HF4 HF5 HI HF2
              have hxl := HL.out
              generalize ln (S.drop q) = X at *
              subst hxl
              clear HL
              rcases List.eq_nil_or_concat X with rfl | ⟨l, cc, rfl⟩
              · exfalso
                simp at hN
                omega
              · rw [List.concat_eq_append] at *
                have f1' : q + (l.length + 1) ≤ S.length := by simpa using f1
                have hext' : (⟨S.toArray⟩ : ByteArray).extract q (q + (l.length + 1)) = ⟨(l ++ [cc]).toArray⟩ := by simpa using hext
                have HN' : Hid (LI r S mx w (.iface 58 (.pointer (some aE))) (q + (l.length + 1) + 1) w2) := hide (by simpa using HN.out)
                have hidx : (⟨(l ++ [cc]).toArray⟩ : ByteArray)[l.length]'(by simp [ByteArray.size]) = cc := by
                  have e : (⟨(l ++ [cc]).toArray⟩ : ByteArray)[l.length]'(by simp [ByteArray.size]) = (l ++ [cc])[l.length]'(by simp) := rfl
                  rw [e]; simp
                clear hext f1 HN
                by_cases hcc : cc = 13
                · subst hcc
                  have hcr : cr (l ++ [13]) = l := by rw [cr_snoc, if_pos rfl]
                  rw [hcr] at HT
                  have hx2 : (⟨(l ++ [13]).toArray⟩ : ByteArray).extract 0 l.length = ⟨l.toArray⟩ := by rw [bs_extract]; simp
                  go_wp2_with fail
                  refine HT.out.mono ?_
                  rintro e w3 ⟨rfl, rfl⟩
                  go_wp2_with fail
                  go_roundg (S.length + 1 - (q + (l.length + 1) + 1))
                  case measure => have := HK.out; omega
                  case rel => exact ⟨q + (l.length + 1) + 1, by go_num, rfl, HN'.out⟩
                · have hcr : cr (l ++ [cc]) = l ++ [cc] := by rw [cr_snoc, if_neg hcc]
                  rw [hcr] at HT
                  have hb13 : ((cc.toNat : Int) == 13) = false := by
                    rw [beq_eq_false_iff_ne]; intro e; exact hcc (UInt8.toNat_inj.1 (show _ = 13 by omega))
                  go_wp2_with fail
                  refine HT.out.mono ?_
                  rintro e w3 ⟨rfl, rfl⟩
                  go_wp2_with fail
                  go_roundg (S.length + 1 - (q + (l.length + 1) + 1))
                  case measure => have := HK.out; omega
                  case rel => exact ⟨q + (l.length + 1) + 1, by go_num, rfl, HN'.out⟩
      · go_wp2_with fail
        go_loop [7] (fun v => ∃ j : Nat, q ≤ j ∧ j ≤ q + ℓ ∧ v = .int .i64 (j : Int)) (fun v => q + ℓ - (intOf v).toNat)
        case atStart => exact ⟨q, Nat.le_refl _, by omega, rfl⟩
        case round =>
          obtain ⟨j, j1, j2, rfl⟩ := hrel
          by_cases hj : j < q + ℓ
          · have hjN : j < S.length := by omega
            have hjI : (j : Int) < (S.length : Int) := by omega
            have hby : ((((⟨S.toArray⟩ : ByteArray)[j]'hjN).toNat : Int) != 10) = true := by
              rw [bne_iff_ne]; intro e; exact f2 j hjN j1 hj (UInt8.toNat_inj.1 (show _ = 10 by omega))
            have HM := hide hm
            clear f2 f3 hm
            go_wp2_with fail
            go_round
            case rel => exact ⟨j + 1, by omega, by omega, by go_num⟩
            case measure => simp [intOf]; omega
          · obtain rfl : j = q + ℓ := by omega
            have HF2 := hide f2
            clear f2
            have hm' : mx < (ℓ : Int) + 1 := by omega
            have hm2 : mx < (q : Int) + (ℓ : Int) - (q : Int) + 1 := by omega
            have HM := hide hm
            clear hm
            by_cases hN : q + ℓ < S.length
            · have hby : ((((⟨S.toArray⟩ : ByteArray)[q + ℓ]'hN).toNat : Int) != 10) = false := by
                rw [f3 hN]; rfl
              have hNI : ((q + ℓ : Nat) : Int) < (S.length : Int) := by omega
              clear f3
              go_wp2_with fail
              refine (HSC.out q kk _ (by omega) HI.out).mono ?_
              rintro e w2 ⟨b, rfl, hs⟩
              obtain ⟨rfl, pos, tok, buf, st, en, hC⟩ := scan_long hs hlt (by rw [HL.out]; have := HM.out; omega)
              have HE := hide (HEL.out _ _ _ _ _ _ hC)
              clear hs hC
              go_wp2_with fail
              refine HE.out.mono ?_
              rintro e w3 ⟨rfl, hB⟩
              have HB := hide hB
              clear hB
              go_wp2_with fail
              go_ret
              exact ⟨rfl, by rw [hrr]; exact HB.out⟩
            · have hNI : decide (((q + ℓ : Nat) : Int) < (S.length : Int)) = false := by simp; omega
              clear f3
              go_wp2_with fail
              refine (HSC.out q kk _ (by omega) HI.out).mono ?_
              rintro e w2 ⟨b, rfl, hs⟩
              obtain ⟨rfl, pos, tok, buf, st, en, hC⟩ := scan_long hs hlt (by rw [HL.out]; have := HM.out; omega)
              have HE := hide (HEL.out _ _ _ _ _ _ hC)
              clear hs hC
              go_wp2_with fail
              refine HE.out.mono ?_
              rintro e w3 ⟨rfl, hB⟩
              have HB := hide hB
              clear hB
              go_wp2_with fail
              go_ret
              exact ⟨rfl, by rw [hrr]; exact HB.out⟩
    · rw [Nat.min_eq_right (by omega)] at hI
      have g0 : decide ((q : Int) < (S.length : Int)) = false := by simp; omega
      have HI := hide hI
      clear hI hk
      go_wp2_with fail
      refine (HSC.out S.length kk _ (Nat.le_refl _) HI.out).mono ?_
      rintro e w2 ⟨b, rfl, hs⟩
      obtain ⟨rfl, hc⟩ := scan_end hs rfl
      clear hs HI
      rcases hc with ⟨m1, pos, tok, buf, st, en, hC⟩ | ⟨m1, pos, tok, buf, st, en, hC⟩
      · have HE := hide (HER.out _ _ _ _ _ _ hC)
        clear hC
        have hnn := ne_nil_nil
        have g1 : decide (mx < 1) = false := by simp; omega
        go_wp2_with fail
        refine HE.out.mono ?_
        rintro e w3 ⟨rfl, hB⟩
        have HB := hide hB
        clear hB
        cases hem : S.isEmpty
        all_goals
          go_wp2_with fail
          go_ret
          exact ⟨by simp, by rw [hrr]; exact HB.out⟩
      · have HE := hide (HEL.out _ _ _ _ _ _ hC)
        clear hC
        have g1 : mx < 1 := by omega
        have hS0 : S = [] := by
          rcases q2 with h | h
          · exact List.length_eq_zero_iff.1 (by omega)
          · omega
        subst hS0
        go_wp2_with fail
        refine HE.out.mono ?_
        rintro e w3 ⟨rfl, hB⟩
        have HB := hide hB
        clear hB
        go_wp2_with fail
        go_ret
        exact ⟨by simp, by rw [hrr]; exact HB.out⟩
end Go.Proofs.Qxb6615772aDoor.fnDec
