import Derived.Test.Qxb6615772aDoorW7
import Derived.LoopN
namespace Go.Proofs.Qxb6615772aDoor.fnDec
open Go.RowKit

theorem method_read (a : Addr) (w : World) : (method 185 32 (.pointer (some a)) "Read").run Tryd.prog w = .ok (41, .pointer (some a)) w := by kernel_rfl

section
variable {r : Nat} {S : List UInt8} {mx : Int} {w0 w : World} {pos : Nat} {tok buf : Value} {st en : Nat} {K : Act → World → Prop} {Q : Exit → Act → World → Prop}

set_option maxRecDepth 100000 in
set_option maxHeartbeats 4000000 in
/-- The reading: the text has ended. -/
theorem x3_eof {B L : Nat} {cur : List UInt8} {aE : Addr} (hC : Core r S mx w0 w pos tok (.slice (some ⟨B, 0, none⟩) L L) st en .nilIface) (hB : Buf r w B cur) (heL : en < L) (hL : L ≤ 4294967296) (hg : w.cell? ⟨4, 0, none⟩ = some (.iface 58 (.pointer (some aE)))) (hp : S.length ≤ pos)
    (hK : ∀ a' w', Fr r a' → Core r S mx w0 w' pos tok (.slice (some ⟨B, 0, none⟩) L L) st en (.iface 58 (.pointer (some aE))) → Buf r w' B cur → K a' w') :
    ∀ a, Fr r a → Code.wp Tryd.prog (sndS (sndS (sndS (sndS (inBlk (bodyOf Tryd.f13)))))) (Exit.then K Q) a w := by
  obtain ⟨c0, c1, c2, c3, c4, c5, c6, c7, ⟨emp, c8⟩, ⟨cal, c9⟩, c10, cf⟩ := hC.cells
  have HK := hide hK
  have HC := hide hC
  have HB := hide hB
  obtain ⟨pr, hr⟩ := hC.rd
  have HR : Hid (∀ n, Calls Tryd.prog 41 #[.pointer (some ⟨r, 0, none⟩), .slice (some ⟨B, en, none⟩) (L - en) (L - en)] (w.drewN n) fun e w' => e = .returned (.tuple #[.int .i64 0, .iface 58 (.pointer (some aE))]) ∧ ∃ k, w' = w.drewN k) := fun n =>
    (read_eof r ⟨S.toArray⟩ pos _ 58 _ (w.drewN n) (by show (w.drewN n).cell? _ = _; simp [World.cell?, hr]) (by show (w.drewN n).cell? _ = _; simp [World.cell?, hr]) hg (by simpa [ByteArray.size] using hp)).mono fun e w' ⟨he, k, hw⟩ => ⟨he, n + k, by rw [hw, World.drewN_drewN]⟩
  clear hC hK hB hr c1 c2 c3 c5 c8 c9 c10 hg
  refine fr_all ?_
  iterate 332 intro _
  show Code.wp _ _ _ _ _
  conv => arg 2; whnf
  have hmr := method_read
  have hsl := slice_buf B L en L (by omega) (by omega) (by omega)
  go_wp2_with fail
  refine wp_loop_rounds 1 ?_
  rw [rounds_succ]
  go_wp2_with fail
  go_quiet ((exact (HR.out _).mono fun e w'' ⟨he, k, hw⟩ => ⟨he, k, hw⟩))
  go_wp2_with fail
  have g2 : ¬ (L : Int) - (en : Int) < 0 := by omega
  go_quiet (fail)
  go_wp2_with fail
  refine (setErr_nil (r + 1) 58 _ _ (by exact ((HC.out.drewN _).setEn en).cells.2.2.2.2.2.2.2.1) (by exact ((HC.out.drewN _).setEn en).cells.2.2.2.2.2.2.2.2.2.2.2 7)).mono ?_
  rintro e w1 ⟨rfl, kk, hw1⟩
  have hC1 : Core r S mx w0 w1 pos tok (.slice (some ⟨B, 0, none⟩) L L) st en (.iface 58 (.pointer (some aE))) := by rw [hw1]; exact (((HC.out.drewN _).setEn en).setEr _).drewN _
  have hB1 : Buf r w1 B cur := by rw [hw1]; exact (((HB.out.drewN _).set _ _).set _ _).drewN _
  have HC1 := hide hC1
  have HB1 := hide hB1
  clear hw1 hC1 hB1 HC HB c0 c4 c6 c7 cf HR hsl
  go_wp2_with fail
  exact HK.out _ _ ⟨_, rfl, rfl⟩ HC1.out HB1.out

set_option maxRecDepth 100000 in
set_option maxHeartbeats 4000000 in
/-- The reading: bytes are left. -/
theorem x3_data {B L n : Nat} {cur : List UInt8} (hC : Core r S mx w0 w pos tok (.slice (some ⟨B, 0, none⟩) L L) st en .nilIface) (hB : Buf r w B cur) (hcL : cur.length = L) (heL : en < L) (hL : L ≤ 4294967296) (hp : pos < S.length) (hS : S.length ≤ 1048576) (hn : n = Nat.min (S.length - pos) (L - en))
    (hK : ∀ a' w', Fr r a' → Core r S mx w0 w' (pos + n) tok (.slice (some ⟨B, 0, none⟩) L L) st (en + n) .nilIface → Buf r w' B (cur.take en ++ (S.drop pos).take n ++ cur.drop (en + n)) → K a' w') :
    ∀ a, Fr r a → Code.wp Tryd.prog (sndS (sndS (sndS (sndS (inBlk (bodyOf Tryd.f13)))))) (Exit.then K Q) a w := by
  obtain ⟨c0, c1, c2, c3, c4, c5, c6, c7, ⟨emp, c8⟩, ⟨cal, c9⟩, c10, cf⟩ := hC.cells
  have HK := hide hK
  have hn1 : 1 ≤ n := by rw [hn]; show 1 ≤ min _ _; omega
  have hn2 : n ≤ L - en := by rw [hn]; exact Nat.min_le_right _ _
  have HR : Hid (Calls Tryd.prog 41 #[.pointer (some ⟨r, 0, none⟩), .slice (some ⟨B, en, none⟩) (L - en) (L - en)] w.drew fun e w' => e = .returned (.tuple #[.int .i64 (n : Int), .nilIface]) ∧
      Core r S mx w0 w' (pos + n) tok (.slice (some ⟨B, 0, none⟩) L L) st en .nilIface ∧ Buf r w' B (cur.take en ++ (S.drop pos).take n ++ cur.drop (en + n))) := by
    obtain ⟨pr, hr⟩ := hC.rd
    refine (read_data r B en (L - en) pos n S cur pr w.drew hr hB.1 (by have := hB.2; omega) (by omega) (by omega) hp (by omega) hn).mono fun e w' ⟨he, k1, k2, k3, k4, k5, k6, k7⟩ => ⟨he, ?_, ⟨k2, hB.2⟩⟩
    have hbB := hB.2
    obtain ⟨emp, cal, hs⟩ := hC.sc
    refine ⟨⟨emp, cal, ?_⟩, ⟨-1, k1⟩, ?_, hC.below.trans ⟨k5, k6, k7, by rw [k4]; exact Nat.le_refl _, fun k hk => ?_⟩⟩
    · rw [k3 (r + 1) (by omega) (by omega)]; exact hs
    · rw [k3 (r + 2) (by omega) (by omega)]; exact hC.dc
    · rw [k3 k (by omega) (by omega)]; rfl
  clear hC hK hB hcL hn c1 c2 c3 c5 c8 c9 c10
  refine fr_all ?_
  iterate 332 intro _
  show Code.wp _ _ _ _ _
  conv => arg 2; whnf
  have hmr := method_read
  have hsl := slice_buf B L en L (by omega) (by omega) (by omega)
  go_wp2_with fail
  refine wp_loop_rounds 1 ?_
  rw [rounds_succ]
  go_wp2_with fail
  go_region_held3 (fun w' => w'.cell? ⟨r + 1, 0, none⟩ = some (.iface 32 (.pointer (some ⟨r, 0, none⟩))) ∧ w'.cell? ⟨r + 1, 4, none⟩ = some (.slice (some ⟨B, 0, none⟩) L L) ∧ w'.cell? ⟨r + 1, 6, none⟩ = some (.int .i64 (en : Int))) (go_keep) (first | (go_at_call 41; refine HR.out.mono ?_; rintro e w1 ⟨rfl, hC1, hB1⟩; obtain ⟨d0, -, -, -, d4, -, d6, d7, ⟨emp1, d8⟩, -, -, df⟩ := hC1.cells; have HC1 := hide hC1; have HB1 := hide hB1; clear hC1 hB1))
  clear c0 c4 c6 c7 cf hsl HR
  have g0 : decide ((n : Int) < 0) = false := by simp
  have g1 : ¬ (L : Int) - (en : Int) < (n : Int) := by omega
  have g2 : (0 : Int) < (n : Int) := by omega
  have hnn := ne_nil_nil
  go_wp2_with fail
  go_quiet (fail)
  go_wp2_with fail
  exact HK.out _ _ ⟨_, rfl, rfl⟩ (((HC1.out.drewN _).setEn (en + n)).setEmp 0) (((HB1.out.drewN _).set _ _).set _ _)
end
end Go.Proofs.Qxb6615772aDoor.fnDec
