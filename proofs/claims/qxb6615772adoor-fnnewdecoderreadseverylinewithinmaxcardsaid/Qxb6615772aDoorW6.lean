import Derived.Test.Qxb6615772aDoorW5
namespace Go.Proofs.Qxb6615772aDoor.fnDec
open Go.RowKit

section
variable {r : Nat} {S : List UInt8} {mx : Int} {w0 w : World} {pos : Nat} {tok buf : Value} {st en : Nat} {K : Act → World → Prop} {Q : Exit → Act → World → Prop}

set_option maxRecDepth 100000 in
set_option maxHeartbeats 4000000 in
/-- 'if s.err != nil': no error. -/
theorem s1_nil (hC : Core r S mx w0 w pos tok buf st en .nilIface) (hK : ∀ a', Fr r a' → K a' w) :
    ∀ a, Fr r a → Code.wp Tryd.prog (fstS (sndS (inBlk (bodyOf Tryd.f13)))) (Exit.then K Q) a w := by
  obtain ⟨c0, c1, c2, c3, c4, c5, c6, c7, ⟨emp, c8⟩, ⟨cal, c9⟩, c10, cf⟩ := hC.cells
  have HK := hide hK
  clear hC hK c0 c1 c2 c3 c4 c5 c6 c8 c9 c10 cf
  refine fr_all ?_
  iterate 332 intro _
  show Code.wp _ _ _ _ _
  conv => arg 2; whnf
  have hn := ne_nil_nil
  go_wp2_with fail
  exact HK.out _ ⟨_, rfl, rfl⟩

set_option maxRecDepth 100000 in
set_option maxHeartbeats 4000000 in
/-- 'if s.err != nil': the text has ended. -/
theorem s1_eof {T : TypeId} {v : Value} (hC : Core r S mx w0 w pos tok buf st en (.iface T v)) (hQ : ∀ a' w', FrB r false a' → Core r S mx w0 w' pos tok buf 0 0 (.iface T v) → Q .ret a' w') :
    ∀ a, Fr r a → Code.wp Tryd.prog (fstS (sndS (inBlk (bodyOf Tryd.f13)))) (Exit.then K Q) a w := by
  obtain ⟨c0, c1, c2, c3, c4, c5, c6, c7, ⟨emp, c8⟩, ⟨cal, c9⟩, c10, cf⟩ := hC.cells
  have HC := hide hC
  have HQ := hide hQ
  clear hC hQ c0 c1 c2 c3 c4 c8 c9 c10
  refine fr_all ?_
  iterate 332 intro _
  show Code.wp _ _ _ _ _
  conv => arg 2; whnf
  go_wp2_with fail
  exact HQ.out _ _ ⟨_, rfl, rfl⟩ ((HC.out.setSt 0).setEn 0)

set_option maxRecDepth 100000 in
set_option maxHeartbeats 4000000 in
/-- The shift: not where the data begins the buffer. -/
theorem s2_zero (hC : Core r S mx w0 w pos tok buf 0 en .nilIface) (hK : ∀ a' n, Fr r a' → K a' (w.drewN n)) :
    ∀ a, Fr r a → Code.wp Tryd.prog (fstS (sndS (sndS (inBlk (bodyOf Tryd.f13))))) (Exit.then K Q) a w := by
  obtain ⟨c0, c1, c2, c3, c4, c5, c6, c7, ⟨emp, c8⟩, ⟨cal, c9⟩, c10, cf⟩ := hC.cells
  have HK := hide hK
  clear hC hK c0 c1 c2 c3 c8 c9 c10 cf c7
  refine fr_all ?_
  iterate 332 intro _
  show Code.wp _ _ _ _ _
  conv => arg 2; whnf
  go_wp2_with fail
  go_quiet (fail)
  go_wp2_with fail
  exact HK.out _ _ ⟨_, rfl, rfl⟩

set_option maxRecDepth 100000 in
set_option maxHeartbeats 4000000 in
/-- The shift: not where there is room behind. -/
theorem s2_stay {B L : Nat} (hC : Core r S mx w0 w pos tok (.slice (some ⟨B, 0, none⟩) L L) st en .nilIface) (h0 : 0 < st) (h1 : en < L) (h2 : st ≤ L / 2) (hL : L ≤ 4294967296) (hK : ∀ a' n, Fr r a' → K a' (w.drewN n)) :
    ∀ a, Fr r a → Code.wp Tryd.prog (fstS (sndS (sndS (inBlk (bodyOf Tryd.f13))))) (Exit.then K Q) a w := by
  obtain ⟨c0, c1, c2, c3, c4, c5, c6, c7, ⟨emp, c8⟩, ⟨cal, c9⟩, c10, cf⟩ := hC.cells
  have HK := hide hK
  clear hC hK c0 c1 c2 c3 c8 c9 c10 cf c7
  refine fr_all ?_
  iterate 332 intro _
  show Code.wp _ _ _ _ _
  conv => arg 2; whnf
  have g0 : (0 : Int) < (st : Int) := by omega
  have g1 : ((en : Int) == (L : Int)) = false := by rw [beq_eq_false_iff_ne]; omega
  have g2 : ¬ (L : Int) / 2 < (st : Int) := by omega
  go_wp2_with fail
  go_quiet (fail)
  go_wp2_with fail
  exact HK.out _ _ ⟨_, rfl, rfl⟩
end
end Go.Proofs.Qxb6615772aDoor.fnDec
