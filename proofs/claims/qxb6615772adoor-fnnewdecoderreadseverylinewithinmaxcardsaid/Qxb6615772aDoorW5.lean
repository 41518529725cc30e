import Derived.Test.Qxb6615772aDoorW4
namespace Go.Proofs.Qxb6615772aDoor.fnDec
open Go.RowKit

/-! The pieces of the loop's body, taken out of the translation. -/
def firstLoop : Code → Option Code
  | .loop c => some c
  | .seq a b => match firstLoop a with
    | some c => some c
    | none => firstLoop b
  | .block _ c => firstLoop c
  | .scope c => firstLoop c
  | .cond _ a b => match firstLoop a with
    | some c => some c
    | none => firstLoop b
  | _ => none
def inBlk : Code → Code
  | .block _ c => c
  | c => c
def fstS : Code → Code
  | .seq a _ => a
  | c => c
def sndS : Code → Code
  | .seq _ b => b
  | c => c
def bodyOf (f : Func) : Code := ((f.body.bind firstLoop).getD .skip)

/-- For every list of n values. -/
def AllL : Nat → (List Value → Prop) → Prop
  | 0, P => P []
  | n + 1, P => ∀ u : Value, AllL n (fun l => P (u :: l))
theorem allL_elim : ∀ (n : Nat) {P : List Value → Prop}, AllL n P → ∀ l : List Value, l.length = n → P l
  | 0, _, h, l, hl => by
    have := List.length_eq_zero_iff.1 hl
    subst this
    exact h
  | n + 1, P, h, u :: l, hl => allL_elim n (P := fun l => P (u :: l)) (h u) l (by simpa using hl)

/-- The frame: the scanner's address, then whatever. -/
def Fr (r : Nat) (a : Act) : Prop := ∃ l : List Value, l.length = 332 ∧ a = ⟨(.pointer (some ⟨r + 1, 0, none⟩) :: undef :: l).toArray, []⟩

set_option maxRecDepth 100000 in
theorem fr_all {r : Nat} {Q : Act → Prop} (h : AllL 332 (fun l => Q ⟨(.pointer (some ⟨r + 1, 0, none⟩) :: undef :: l).toArray, []⟩)) : ∀ a, Fr r a → Q a := by
  rintro a ⟨l, hl, rfl⟩
  exact allL_elim 332 (P := fun l => Q ⟨(.pointer (some ⟨r + 1, 0, none⟩) :: undef :: l).toArray, []⟩) h l hl

/-- The frame with the result in its place. -/
def FrB (r : Nat) (b : Bool) (a : Act) : Prop := ∃ l : List Value, l.length = 331 ∧ a = ⟨(.pointer (some ⟨r + 1, 0, none⟩) :: undef :: .bool b :: l).toArray, []⟩

theorem size5 (w : World) : (sizeOf 5).run Tryd.prog w = .ok 1 w := by kernel_rfl
theorem slice_buf (B L st en : Nat) (h1 : st ≤ en) (h2 : en ≤ L) (h3 : st < L) : ∀ w, (Instr.slice 48 (.slice (some ⟨B, 0, none⟩) L L) (some (.int .i64 (st : Int))) (some (.int .i64 (en : Int))) none).run Tryd.prog w = .ok (.slice (some ⟨B, st, none⟩) (en - st) (L - st)) w := by
  intro w
  have he : Tryd.prog.elem 48 = 5 := by kernel_rfl
  rw [run_slice_lh (P := Tryd.prog) w 48 (some ⟨B, 0, none⟩) L L (by rw [he]; exact Tryd.underlying48) .i64 .i64 _ _ (by omega) (by omega) (by omega), he, size5]
  simp [sliced, show ¬ L = st by omega]
  unfold Addr.add
  split <;> simp_all

theorem tok_nil (w : World) : (binOp .neq 48 (.slice none 0 0) (.slice none 0 0)).run Tryd.prog w = .ok (.bool false) w := by kernel_rfl
theorem tok_some (a : Addr) (n c : Nat) (w : World) : (binOp .neq 48 (.slice (some a) n c) (.slice none 0 0)).run Tryd.prog w = .ok (.bool true) w := by kernel_rfl
theorem advance_zero (sc : Nat) (st en : Nat) (w : World) (h5 : w.cell? ⟨sc, 5, none⟩ = some (.int .i64 (st : Int))) (h6 : w.cell? ⟨sc, 6, none⟩ = some (.int .i64 (en : Int))) (hf : w.frozen? ⟨sc, 5, none⟩ = false)
    (hn : st ≤ en) (hen : en ≤ 9223372036854775807) :
    Calls Tryd.prog 19 #[.pointer (some ⟨sc, 0, none⟩), .int .i64 0] w fun e w' => e = .returned (.bool true) ∧ ∃ k, w' = (w.setCell ⟨sc, 5, none⟩ (.int .i64 (st : Int))).drewN k :=
  advance_ok sc st en 0 w h5 h6 hf hn hen

theorem hide {p : Prop} (h : p) : Hid p := h

section
variable {r : Nat} {S : List UInt8} {mx : Int} {w0 w : World} {pos : Nat} {tok : Value} {st en : Nat} {K : Act → World → Prop} {Q : Exit → Act → World → Prop}

set_option maxRecDepth 100000 in
set_option maxHeartbeats 4000000 in
/-- The first 'if', nothing in the buffer, no error. -/
theorem s0_A {buf : Value} (hC : Core r S mx w0 w pos tok buf st st .nilIface)
    (hK : ∀ a' w', Fr r a' → (∃ n, w' = w.drewN n) → K a' w') :
    ∀ a, Fr r a → Code.wp Tryd.prog (fstS (inBlk (bodyOf Tryd.f13))) (Exit.then K Q) a w := by
  obtain ⟨c0, c1, c2, c3, c4, c5, c6, c7, ⟨emp, c8⟩, ⟨cal, c9⟩, c10, cf⟩ := hC.cells
  clear hC c0 c1 c2 c3 c4 c8 c9 c10 cf
  refine fr_all ?_
  iterate 332 intro _
  show Code.wp _ _ _ _ _
  conv => arg 2; whnf
  have h1 : decide ((st : Int) < (st : Int)) = false := by simp
  have hn := ne_nil_nil
  go_wp2_with fail
  go_quiet (fail)
  go_wp2_with fail
  exact hK _ _ ⟨_, rfl, rfl⟩ ⟨_, rfl⟩

set_option maxRecDepth 100000 in
set_option maxHeartbeats 4000000 in
/-- The first 'if': bytes lie there, no newline among them, more may come. -/
theorem s0_C {B L : Nat} {cur x : List UInt8} (hC : Core r S mx w0 w pos tok (.slice (some ⟨B, 0, none⟩) L L) st en .nilIface) (hB : Buf r w B cur) (hx : x.length = en - st) (hH : Holds w B st x) (h10 : (10 : UInt8) ∉ x) (hse : st < en) (heL : en ≤ L) (hL : L ≤ 4294967296)
    (hK : ∀ a' w', Fr r a' → Core r S mx w0 w' pos (.slice none 0 0) (.slice (some ⟨B, 0, none⟩) L L) st en .nilIface → Buf r w' B cur → K a' w') :
    ∀ a, Fr r a → Code.wp Tryd.prog (fstS (inBlk (bodyOf Tryd.f13))) (Exit.then K Q) a w := by
  obtain ⟨c0, c1, c2, c3, c4, c5, c6, c7, ⟨emp, c8⟩, ⟨cal, c9⟩, c10, cf⟩ := hC.cells
  have HC : Hid (Core r S mx w0 w pos tok (.slice (some ⟨B, 0, none⟩) L L) st en .nilIface ∧ Buf r w B cur) := ⟨hC, hB⟩
  have HH : Hid (∀ n, Calls Tryd.prog 20 #[.slice (some ⟨B, st, none⟩) (en - st) (L - st), .bool false] (w.drewN n) fun e w' => e = .returned (.tuple #[.int .i64 0, .slice none 0 0, .nilIface]) ∧ w' = w.drewN n) := fun n =>
    (lines_more B st (en - st) (L - st) x (w.drewN n) hx hH h10).mono fun e w' ⟨he, hw⟩ => ⟨he, hw.symm⟩
  have HK : Hid (∀ a' w', Fr r a' → Core r S mx w0 w' pos (.slice none 0 0) (.slice (some ⟨B, 0, none⟩) L L) st en .nilIface → Buf r w' B cur → K a' w') := hK
  clear hC hB hH c0 c2 c8 c9 c10 hK
  refine fr_all ?_
  iterate 332 intro _
  show Code.wp _ _ _ _ _
  conv => arg 2; whnf
  have h1 : (st : Int) < (en : Int) := by omega
  have h2 := slice_buf B L st en (by omega) heL (by omega)
  have hn := ne_nil_nil
  go_wp2_with fail
  go_quiet (fail)
  go_wp2_with fail
  go_quiet ((exact (HH.out _).mono fun e w'' ⟨he, hw⟩ => ⟨he, _, hw⟩))
  go_wp2_with fail
  refine (advance_zero (r + 1) st en _ (by exact c5) (by exact c6) (by exact cf 5) (by omega) (by omega)).mono ?_
  rintro e w1 ⟨rfl, kk, hw1⟩
  have hC1 : Core r S mx w0 w1 pos tok (.slice (some ⟨B, 0, none⟩) L L) st en .nilIface := by rw [hw1]; exact ((HC.out.1.drewN _).setSt _).drewN _
  have hB1 : Buf r w1 B cur := by rw [hw1]; exact ((HC.out.2.drewN _).set _ _).drewN _
  clear hw1 c1 c3 c4 c5 c6 c7 cf HC HH h2
  obtain ⟨-, -, -, c3, -, -, -, c7, -, -, -, cf⟩ := hC1.cells
  have HC1 : Hid (Core r S mx w0 w1 pos tok (.slice (some ⟨B, 0, none⟩) L L) st en .nilIface ∧ Buf r w1 B cur) := ⟨hC1, hB1⟩
  have hnn := tok_nil
  clear hC1 hB1
  go_wp2_with fail
  exact HK.out _ _ ⟨_, rfl, rfl⟩ (HC1.out.1.setTok _) (HC1.out.2.set _ _)

set_option maxRecDepth 100000 in
set_option maxHeartbeats 4000000 in
/-- The first 'if': the split function hands out a token. -/
theorem s0_T {B L adv m c : Nat} {cur : List UInt8} {er : Value} {b : Bool} (hC : Core r S mx w0 w pos tok (.slice (some ⟨B, 0, none⟩) L L) st en er) (hB : Buf r w B cur)
    (hL : ∀ n, Calls Tryd.prog 20 #[.slice (some ⟨B, st, none⟩) (en - st) (L - st), .bool b] (w.drewN n) fun e w' => e = .returned (.tuple #[.int .i64 (adv : Int), .slice (some ⟨B, st, none⟩) m c, .nilIface]) ∧ w' = w.drewN n)
    (her : (er = .nilIface ∧ b = false) ∨ ∃ T v, er = .iface T v ∧ b = true)
    (h1a : 1 ≤ adv) (hse : st + adv ≤ en) (heL : en ≤ L) (hLL : L ≤ 4294967296)
    (hQ : ∀ a' w', FrB r true a' → Core r S mx w0 w' pos (.slice (some ⟨B, st, none⟩) m c) (.slice (some ⟨B, 0, none⟩) L L) (st + adv) en er → Buf r w' B cur → Q .ret a' w') :
    ∀ a, Fr r a → Code.wp Tryd.prog (fstS (inBlk (bodyOf Tryd.f13))) (Exit.then K Q) a w := by
  obtain ⟨c0, c1, c2, c3, c4, c5, c6, c7, ⟨emp, c8⟩, ⟨cal, c9⟩, c10, cf⟩ := hC.cells
  have HC : Hid (Core r S mx w0 w pos tok (.slice (some ⟨B, 0, none⟩) L L) st en er ∧ Buf r w B cur) := ⟨hC, hB⟩
  have HH : Hid (∀ n, Calls Tryd.prog 20 #[.slice (some ⟨B, st, none⟩) (en - st) (L - st), .bool b] (w.drewN n) fun e w' => e = .returned (.tuple #[.int .i64 (adv : Int), .slice (some ⟨B, st, none⟩) m c, .nilIface]) ∧ w' = w.drewN n) := hL
  have HQ : Hid (∀ a' w', FrB r true a' → Core r S mx w0 w' pos (.slice (some ⟨B, st, none⟩) m c) (.slice (some ⟨B, 0, none⟩) L L) (st + adv) en er → Buf r w' B cur → Q .ret a' w') := hQ
  rcases her with ⟨her, rfl⟩ | ⟨T, v, her, rfl⟩
  all_goals
    rw [her] at c7
    have HE := hide her
    clear her
    clear hC hB hL c0 c2 c8 c9 c10 hQ
    refine fr_all ?_
    iterate 332 intro _
    show Code.wp _ _ _ _ _
    conv => arg 2; whnf
    have h1 : (st : Int) < (en : Int) := by omega
    have h2 := slice_buf B L st en (by omega) heL (by omega)
    have hn := ne_nil_nil
    go_wp2_with fail
    go_quiet (fail)
    go_wp2_with fail
    go_quiet ((exact (HH.out _).mono fun e w'' ⟨he, hw⟩ => ⟨he, _, hw⟩))
    go_wp2_with fail
    refine (advance_ok (r + 1) st en adv _ (by exact c5) (by exact c6) (by exact cf 5) (by omega) (by omega)).mono ?_
    rintro e w1 ⟨rfl, kk, hw1⟩
    have hC1 : Core r S mx w0 w1 pos tok (.slice (some ⟨B, 0, none⟩) L L) (st + adv) en er := by rw [hw1]; exact ((HC.out.1.drewN _).setSt _).drewN _
    have hB1 : Buf r w1 B cur := by rw [hw1]; exact ((HC.out.2.drewN _).set _ _).drewN _
    clear hw1 c1 c3 c4 c5 c6 c7 cf HC HH h2
    obtain ⟨-, -, -, c3, -, -, -, c7, ⟨emp, c8⟩, -, -, cf⟩ := hC1.cells
    rw [HE.out] at c7
    have HC1 : Hid (Core r S mx w0 w1 pos tok (.slice (some ⟨B, 0, none⟩) L L) (st + adv) en er ∧ Buf r w1 B cur) := ⟨hC1, hB1⟩
    have hnn := tok_some
    have h3 : (0 : Int) < (adv : Int) := by omega
    clear hC1 hB1
    go_wp2_with fail
    exact HQ.out _ _ ⟨_, rfl, rfl⟩ ((HC1.out.1.setTok _).setEmp _) ((HC1.out.2.set _ _).set _ _)

set_option maxRecDepth 100000 in
set_option maxHeartbeats 4000000 in
/-- The first 'if': the text has ended, nothing is left. -/
theorem s0_D {B L : Nat} {cur : List UInt8} {T : TypeId} {v : Value} (hC : Core r S mx w0 w pos tok (.slice (some ⟨B, 0, none⟩) L L) st st (.iface T v)) (hB : Buf r w B cur) (hsL : st < L) (hL : L ≤ 4294967296)
    (hK : ∀ a' w', Fr r a' → Core r S mx w0 w' pos (.slice none 0 0) (.slice (some ⟨B, 0, none⟩) L L) st st (.iface T v) → Buf r w' B cur → K a' w') :
    ∀ a, Fr r a → Code.wp Tryd.prog (fstS (inBlk (bodyOf Tryd.f13))) (Exit.then K Q) a w := by
  obtain ⟨c0, c1, c2, c3, c4, c5, c6, c7, ⟨emp, c8⟩, ⟨cal, c9⟩, c10, cf⟩ := hC.cells
  have HC : Hid (Core r S mx w0 w pos tok (.slice (some ⟨B, 0, none⟩) L L) st st (.iface T v) ∧ Buf r w B cur) := ⟨hC, hB⟩
  have HH : Hid (∀ n, Calls Tryd.prog 20 #[.slice (some ⟨B, st, none⟩) 0 (L - st), .bool true] (w.drewN n) fun e w' => e = .returned (.tuple #[.int .i64 0, .slice none 0 0, .nilIface]) ∧ w' = w.drewN n) := fun n =>
    (lines_end _ (L - st) (w.drewN n)).mono fun e w' ⟨he, hw⟩ => ⟨he, hw.symm⟩
  have HK : Hid (∀ a' w', Fr r a' → Core r S mx w0 w' pos (.slice none 0 0) (.slice (some ⟨B, 0, none⟩) L L) st st (.iface T v) → Buf r w' B cur → K a' w') := hK
  clear hC hB c0 c2 c8 c9 c10 hK
  refine fr_all ?_
  iterate 332 intro _
  show Code.wp _ _ _ _ _
  conv => arg 2; whnf
  have h1 : decide ((st : Int) < (st : Int)) = false := by simp
  have h2 := slice_buf B L st st (by omega) (by omega) (by omega)
  rw [Nat.sub_self] at h2
  have hn := ne_nil_nil
  go_wp2_with fail
  go_quiet (fail)
  go_wp2_with fail
  go_quiet ((exact (HH.out _).mono fun e w'' ⟨he, hw⟩ => ⟨he, _, hw⟩))
  go_wp2_with fail
  refine (advance_zero (r + 1) st st _ (by exact c5) (by exact c6) (by exact cf 5) (by omega) (by omega)).mono ?_
  rintro e w1 ⟨rfl, kk, hw1⟩
  have hC1 : Core r S mx w0 w1 pos tok (.slice (some ⟨B, 0, none⟩) L L) st st (.iface T v) := by rw [hw1]; exact ((HC.out.1.drewN _).setSt _).drewN _
  have hB1 : Buf r w1 B cur := by rw [hw1]; exact ((HC.out.2.drewN _).set _ _).drewN _
  clear hw1 c1 c3 c4 c5 c6 c7 cf HC HH h2
  obtain ⟨-, -, -, c3, -, -, -, c7, -, -, -, cf⟩ := hC1.cells
  have HC1 : Hid (Core r S mx w0 w1 pos tok (.slice (some ⟨B, 0, none⟩) L L) st st (.iface T v) ∧ Buf r w1 B cur) := ⟨hC1, hB1⟩
  have hnn := tok_nil
  clear hC1 hB1
  go_wp2_with fail
  exact HK.out _ _ ⟨_, rfl, rfl⟩ (HC1.out.1.setTok _) (HC1.out.2.set _ _)
end
end Go.Proofs.Qxb6615772aDoor.fnDec
