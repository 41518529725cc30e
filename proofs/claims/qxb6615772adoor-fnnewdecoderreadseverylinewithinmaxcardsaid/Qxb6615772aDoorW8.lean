import Derived.Test.Qxb6615772aDoorW5
import Derived.Deep.RegionHeld3
namespace Go.Proofs.Qxb6615772aDoor.fnDec
open Go.RowKit

section
variable {r : Nat} {S : List UInt8} {mx : Int} {w0 w : World} {pos : Nat} {tok buf : Value} {st en : Nat} {K : Act → World → Prop} {Q : Exit → Act → World → Prop}

set_option maxRecDepth 100000 in
set_option maxHeartbeats 4000000 in
/-- There is room in the buffer. -/
theorem s3_room {a0 : Option Addr} {L : Nat} (hC : Core r S mx w0 w pos tok (.slice a0 L L) st en .nilIface) (h1 : en < L) (hK : ∀ a' n, Fr r a' → K a' (w.drewN n)) :
    ∀ a, Fr r a → Code.wp Tryd.prog (fstS (sndS (sndS (sndS (inBlk (bodyOf Tryd.f13)))))) (Exit.then K Q) a w := by
  obtain ⟨c0, c1, c2, c3, c4, c5, c6, c7, ⟨emp, c8⟩, ⟨cal, c9⟩, c10, cf⟩ := hC.cells
  have HK := hide hK
  clear hC hK c0 c1 c2 c3 c8 c9 c10 cf c7 c5
  refine fr_all ?_
  iterate 332 intro _
  show Code.wp _ _ _ _ _
  conv => arg 2; whnf
  have g1 : ((en : Int) == (L : Int)) = false := by rw [beq_eq_false_iff_ne]; omega
  go_wp2_with fail
  go_quiet (fail)
  go_wp2_with fail
  exact HK.out _ _ ⟨_, rfl, rfl⟩

set_option maxRecDepth 100000 in
set_option maxHeartbeats 4000000 in
/-- The buffer is full and may not grow: ErrTooLong. -/
theorem s3_long {a0 : Option Addr} {L : Nat} {aT : Addr} (hC : Core r S mx w0 w pos tok (.slice a0 L L) st L .nilIface) (h1 : mx ≤ (L : Int)) (hg : w.cell? ⟨1, 0, none⟩ = some (.iface 58 (.pointer (some aT))))
    (hQ : ∀ a' w', FrB r false a' → Core r S mx w0 w' pos tok (.slice a0 L L) st L (.iface 58 (.pointer (some aT))) → Q .ret a' w') :
    ∀ a, Fr r a → Code.wp Tryd.prog (fstS (sndS (sndS (sndS (inBlk (bodyOf Tryd.f13)))))) (Exit.then K Q) a w := by
  obtain ⟨c0, c1, c2, c3, c4, c5, c6, c7, ⟨emp, c8⟩, ⟨cal, c9⟩, c10, cf⟩ := hC.cells
  have HQ := hide hQ
  have HC := hide hC
  clear hC hQ c0 c1 c3 c8 c9 c10 c5
  refine fr_all ?_
  iterate 332 intro _
  show Code.wp _ _ _ _ _
  conv => arg 2; whnf
  have g1 : ((L : Int) == (L : Int)) = true := by simp
  go_wp2_with fail
  go_quiet (fail)
  go_wp2_with fail
  go_quiet (fail)
  go_wp2_with fail
  refine (setErr_nil (r + 1) 58 _ _ (by exact c7) (by exact cf 7)).mono ?_
  rintro e w1 ⟨rfl, kk, hw1⟩
  have hC1 : Core r S mx w0 w1 pos tok (.slice a0 L L) st L (.iface 58 (.pointer (some aT))) := by rw [hw1]; exact ((HC.out.drewN _).setEr _).drewN _
  have HC1 := hide hC1
  clear hw1 hC1 HC c2 c4 c6 c7 cf hg
  go_wp2_with fail
  exact HQ.out _ _ ⟨_, rfl, rfl⟩ HC1.out
end
end Go.Proofs.Qxb6615772aDoor.fnDec
