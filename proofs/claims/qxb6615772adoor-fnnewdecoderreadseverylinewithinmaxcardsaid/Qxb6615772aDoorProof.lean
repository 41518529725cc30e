import Derived.Test.Qxb6615772aDoorW15
import Derived.Test.Qxb6615772aDoorCards
import Derived.Test.Qxb6615772aDoorTie
import Derived.ProofKit
import Derived.ShutString
import Derived.OpenShut
import Derived.ChangeSame
import Derived.ChangeVars
import Derived.JoinedOf
import Derived.LaidLaws
import Derived.LaidHandle
import Derived.LaidSub
import Derived.MakeChecks
import Derived.Lay
import Derived.Stop.LaidTwo
import Derived.SevenTiedAt
namespace Go.Proofs.Qxb6615772aDoor.fnDec
open Go.ChangeShapes Go.WideShapes Go.ChangeAt Go.RowKit
open Go.ChangeMaps (open_string shut_string)

theorem own : ownKnob Tryd.prog.godebug = none := by kernel_rfl
theorem cells9 : Tryd.prog.cellsOf 9 = 1 := by kernel_rfl
theorem cells77 : Tryd.prog.cellsOf 77 = 1 := by kernel_rfl
theorem gEof : Tryd.prog.globalNamed "io.EOF" = some 4 := by kernel_rfl
theorem gLong : Tryd.prog.globalNamed "bufio.ErrTooLong" = some 1 := by kernel_rfl
theorem gEofT : (Tryd.prog.globals[4]?).map (·.type) = some 28 := by kernel_rfl
theorem gLongT : (Tryd.prog.globals[1]?).map (·.type) = some 28 := by kernel_rfl

set_option maxHeartbeats 1000000 in
/-- Where the text is longer than the law looks at. -/
theorem law_out (s : ByteArray) (mx : Int) (w : World) (hs : s.size ≤ maxLen) (hb : ¬ s.size ≤ 1048576) :
    Calls Tryd.prog 3 #[.string s, .int .i64 mx] w fun e w' => e = .returned (.bool true) ∧ Below w.heap.size w w' := by
  have h4 := fun w => bytes_any s mx hs w
  rw [show decide (s.size ≤ 1048576) = false by simpa using hb] at h4
  have H4 := hide h4
  clear h4
  go_enter Tryd.func3, Tryd.ntmps3
  go_wp2_with fail
  refine (H4.out _).mono ?_
  rintro e w1 ⟨rfl, rfl⟩
  go_wp2_with fail
  go_ret
  exact ⟨rfl, Below.refl _ _⟩

theorem bs_eta (s : ByteArray) : s = ⟨s.data.toList.toArray⟩ := by cases s; simp
theorem bs_len (s : ByteArray) : s.data.toList.length = s.size := (Lib.size_eq s).symm

/-- What the listed variables give. -/
theorem sentinels {W : World} (h : laidMetH Tryd.prog Rows.fnNewDecoderReadsEveryLineWithinMaxRow.laid W) :
    ∃ (aE aT : Addr) (ca cb : Array Value) (ta tb : TypeId), W.cell? ⟨4, 0, none⟩ = some (.iface 58 (.pointer (some aE))) ∧ W.cell? ⟨1, 0, none⟩ = some (.iface 58 (.pointer (some aT))) ∧ aT ≠ aE ∧
      W.heap[aT.block]? = some (.cells cb tb (0, 0)) ∧ W.heap[aE.block]? = some (.cells ca ta (0, 0)) := by
  rw [MakeChecks.laidMetH_plain _ _ _ (by decide)] at h
  have row58 := typeName_ptr_named (P := Tryd.prog) (nm := "errors.errorString") (tp := 58) (by kernel_rfl) (by kernel_rfl) (by decide)
  have h2 := h.filter (fun x => x.1 == "io.EOF" || x.1 == "bufio.ErrTooLong")
  have e : Rows.fnNewDecoderReadsEveryLineWithinMaxRow.laid.filter (fun x => x.1 == "io.EOF" || x.1 == "bufio.ErrTooLong") = [("io.EOF", Rows.laid_io_EOF), ("bufio.ErrTooLong", Rows.laid_bufio_ErrTooLong)] := by rfl
  rw [e] at h2
  obtain ⟨a0, a1, s0, s1, c0, c1, t0, t1, hv0, hv1, _, _, _, _, _, _, hne, hb0, hb1⟩ := laid_sentinels2 h2 gEof gEofT gLong gLongT Tryd.underlying28 (fun u hu => row58 u (hu.trans (by decide))) Tryd.underlying58 Tryd.underlying77 rfl rfl Tryd.underlying9 cells77 cells9
  refine ⟨a0, a1, c0, c1, t0, t1, ?_, ?_, fun e => hne e.symm, hb1, hb0⟩
  · simpa using World.var?_cell gEof hv0 0
  · simpa using World.var?_cell gLong hv1 0

theorem laid_met (os : Os) (args : Array Value) : laidMetH Tryd.prog Rows.fnNewDecoderReadsEveryLineWithinMaxRow.laid ((World.laidAll Tryd.prog os Rows.fnNewDecoderReadsEveryLineWithinMaxRow.laid).forCall (fun _ _ => 0) ⟨#[], args, []⟩).memory := by
  rw [MakeChecks.laidMetH_plain _ _ _ (by decide)]
  exact laidMet_laidAll args (by kernel_rfl) (by kernel_rfl)

set_option maxRecDepth 100000 in
theorem lifted (os : Os) (started : os.Started) (H : Type) (enc : TypeId × Value → H) :
    ReturnsInHanded {} Tryd.checked os 3 .any (fun w args => (Rows.fnNewDecoderReadsEveryLineWithinMaxSpec.pre enc Tryd.prog Tryd.f3 [] false w args ∧ laidMetH Tryd.prog Rows.fnNewDecoderReadsEveryLineWithinMaxRow.laid w) ∧ sizedMet enc Tryd.prog Tryd.f3 (OpenSpec.ofChange Rows.fnNewDecoderReadsEveryLineWithinMaxSpec) false w args)
      (Rows.fnNewDecoderReadsEveryLineWithinMaxSpec.post enc Tryd.prog Tryd.f3 false true false false) := by
  refine returnsInHanded_of_change_and (C := Tryd.checked) (X := fun w _ => laidMetH Tryd.prog Rows.fnNewDecoderReadsEveryLineWithinMaxRow.laid w) (fun _ _ _ hh h => h.of_heap hh) own started (by kernel_rfl) Tryd.func3
    (ChangeSpec.witness_at (enc := enc) (C := Tryd.checked) (os := os) (X := fun w _ => laidMetH Tryd.prog Rows.fnNewDecoderReadsEveryLineWithinMaxRow.laid w) false (World.laidAll Tryd.prog os Rows.fnNewDecoderReadsEveryLineWithinMaxRow.laid) #[.string ⟨#[]⟩, .int .i64 0] 8 (World.laidAll_os _ _ _) (by kernel_rfl) (by kernel_rfl) (by kernel_rfl) (by kernel_rfl) (by kernel_rfl) (laid_met os _)) ?_
  intro W base args ds gs before hval0 hW _ _ hL _
  have hval : ∀ (j : Nat) t v, Tryd.f3.params[j]? = some t → args[j]? = some v → Value.okWide Tryd.prog W .any base t v := hval0
  have hW' := hW
  obtain ⟨p, q, hA0, hV, rfl, hfz, hnd⟩ := hW
  have hA : DataW.TrodAll enc Tryd.prog W 0 (fun _ => true) true Tryd.f3.params.toList args.toList ds p := hA0
  rw [Tryd.params3] at hA hval
  obtain ⟨v0, v1, d0, d1, p0, p1, rfl, rfl, rfl, h0, h1⟩ := trodAll_two hA
  obtain ⟨rfl, rfl⟩ := trodVars_none hV
  obtain ⟨s, rfl, rfl, rfl, ws⟩ := open_string Tryd.underlying9 (hval 0 9 v0 rfl rfl) h0
  obtain ⟨m, rfl, rfl, rfl, wm⟩ := open_int Tryd.underlying3 (hval 1 3 v1 rfl rfl) h1
  clear hA0 hval0
  have bd : -9223372036854775808 ≤ m ∧ m ≤ 9223372036854775807 := by
    have := wm
    simp [Lit.wf, IntKind.min, IntKind.max, IntKind.signed, IntKind.bits] at this
    omega
  obtain ⟨aE, aT, ca, cb, ta, tb, hE, hT, hne, hb, ha⟩ := sentinels hL
  have h4 : 4 < W.heap.size := by
    rcases Nat.lt_or_ge 4 W.heap.size with h | h
    · exact h
    · simp [World.cell?, Array.getElem?_eq_none h] at hE
  have key : Calls Tryd.prog 3 #[.string s, .int .i64 m] W fun e w' => e = .returned (.bool true) ∧ Below W.heap.size W w' := by
    by_cases hsz : s.size ≤ 1048576
    · have hl := bs_len s
      rw [bs_eta s]
      exact law_in s.data.toList m W (by omega) bd.1 bd.2 aE aT h4 hE hT hne ca cb ta tb hb ha
    · exact law_out s m W ws hsz
  refine key.mono fun e W' ⟨he, bel⟩ => ?_
  subst he
  refine ⟨_, rfl, _, _, _, [], [], [], hW', ?_, ?_, rfl, bel.frame _, fun h => by cases h⟩
  · exact trodAll_mk1 (shut_bool Tryd.underlying4 _)
  · exact trodAll_mk2 (shut_string Tryd.underlying9 ws) (shut_int Tryd.underlying3 wm)

theorem row_holds : Rows.FnNewDecoderReadsEveryLineWithinMaxSaid :=
  OpenClaim.holds_of_wide 3 Tryd.f3 rfl rfl rfl rfl rfl rfl rfl ⟨rfl, rfl, rfl, rfl, rfl⟩ rfl rfl rfl rfl rfl (by kernel_rfl) Tryd.func3 (by kernel_rfl)
    (of_decide_eq_true (by kernel_rfl)) (by unfold Func.isWrapper; first | (rw [if_pos (by decide +kernel)]; kernel_rfl) | (rw [if_neg (by decide +kernel)]; exact ⟨rfl, rfl⟩))
    (fun os started H enc _ => lifted os started H enc)

theorem named3 : Tryd.prog.funcNamed Rows.fnNewDecoderReadsEveryLineWithinMaxRow.func = some 3 := by kernel_rfl
theorem wants9 : Tryd.prog.wantsStandIn 9 = false := by kernel_rfl
theorem wants3 : Tryd.prog.wantsStandIn 3 = false := by kernel_rfl

theorem proved : Rows.FnNewDecoderReadsEveryLineWithinMaxCardSaid :=
  Claim7.holds_tied_plain_at .later [] [.sentinel, .sentinel, .sentinel, .sentinel, .sentinel, .sentinel, .sentinel] true _ true
    row_holds (fun _ h => by cases h) (by kernel_rfl) (fun _ h => by cases h) fnNewDecoderReadsEveryLineWithinMax_row_tie rfl ⟨rfl, rfl⟩ (by kernel_rfl) rfl
    (fun f fn hf hfn => by
      obtain rfl : f = 3 := (Option.some.inj (named3.symm.trans hf)).symm
      obtain rfl : fn = Tryd.f3 := (Option.some.inj (Tryd.func3.symm.trans hfn)).symm
      exact ⟨by kernel_rfl, fun j t ht => by
        rw [Tryd.params3] at ht
        rcases j with _ | _ | j
        · obtain rfl : t = 9 := by simpa using ht.symm
          exact wants9
        · obtain rfl : t = 3 := by simpa using ht.symm
          exact wants3
        · simp at ht⟩)
    (by kernel_rfl)
end Go.Proofs.Qxb6615772aDoor.fnDec
