import Derived.Test.Qxb6000769aRows
import Derived.WalkKit
import Derived.ProofKit
namespace Go.Proofs.Qxb6000769a.fnPositionRoundTripsToOffset

theorem make_of (P : Program) (h : (behindMainWord (wordsSigns P.initOrder.toList)).head? = some ['c', 'u', 't']) : P.make = some .cut := by
  unfold Program.make
  cases hb : behindMainWord (wordsSigns P.initOrder.toList) with
  | nil => rw [hb] at h; cases h
  | cons c rest =>
    rw [hb] at h
    obtain rfl : c = ['c', 'u', 't'] := by simpa using h
    rfl

theorem lifts_of (P : Program) (h : (behindMainWord (wordsSigns P.initOrder.toList)).head? = some ['c', 'u', 't']) (s : (stripLifts liftWords (behindMainWord (wordsSigns P.initOrder.toList))).1 = []) :
    P.liftsFinal = false := by
  unfold Program.liftsFinal Program.headLifts
  cases hb : behindMainWord (wordsSigns P.initOrder.toList) with
  | nil => rw [hb] at h; cases h
  | cons c rest =>
    rw [hb] at h s
    obtain rfl : c = ['c', 'u', 't'] := by simpa using h
    simp [s]

theorem enter_of (P : Program) (h : (behindMainWord (wordsSigns P.initOrder.toList)).head? = some ['c', 'u', 't']) (s : (stripLifts liftWords (behindMainWord (wordsSigns P.initOrder.toList))).1 = [])
    (s2 : (stripLifts liftWords (behindMainWord (wordsSigns P.initOrder.toList))).2.head? = some ['c', 'u', 't'])
    (l : P.laysLater = false) (b : P.bearsReflect = false) (d : P.doorFits [] = true) : P.mayEnter = true := by
  unfold Program.mayEnter
  cases hb : behindMainWord (wordsSigns P.initOrder.toList) with
  | nil => rw [hb] at h; cases h
  | cons c rest =>
    rw [hb] at h s s2
    obtain rfl : c = ['c', 'u', 't'] := by simpa using h
    simp [s, s2, l, b, d]

/-- What is asked of the words of the head of the dump: one reading serves all three. -/
def said (ws : List (List Char)) : Bool := ws.head? == some ['c', 'u', 't'] && (stripLifts liftWords ws).1.isEmpty && (stripLifts liftWords ws).2.head? == some ['c', 'u', 't']

set_option maxRecDepth 100000 in
/-- The signs of the head, as the elaborator finds them: the kernel reads this list in a moment, and the text itself by way of its bytes in more than a minute and nine GB. -/
theorem head_list : ∃ l : List Char, Try.prog.initOrder = String.ofList l ∧ said (behindMainWord (wordsSigns l)) = true := by
  apply Exists.intro
  apply And.intro
  · exact (rfl : Try.prog.initOrder = _)
  · kernel_rfl

theorem head_said : said (behindMainWord (wordsSigns Try.prog.initOrder.toList)) = true := by
  obtain ⟨l, hl, hs⟩ := head_list
  rw [hl, String.toList_ofList]
  exact hs

theorem said_all {ws : List (List Char)} (h : said ws = true) : ws.head? = some ['c', 'u', 't'] ∧ (stripLifts liftWords ws).1 = [] ∧ (stripLifts liftWords ws).2.head? = some ['c', 'u', 't'] := by
  unfold said at h
  simpa [Bool.and_eq_true, and_assoc] using h

theorem word : (behindMainWord (wordsSigns Try.prog.initOrder.toList)).head? = some ['c', 'u', 't'] := (said_all head_said).1
theorem strip1 : (stripLifts liftWords (behindMainWord (wordsSigns Try.prog.initOrder.toList))).1 = [] := (said_all head_said).2.1
theorem strip2 : (stripLifts liftWords (behindMainWord (wordsSigns Try.prog.initOrder.toList))).2.head? = some ['c', 'u', 't'] := (said_all head_said).2.2
theorem later : Try.prog.laysLater = false := by kernel_rfl
theorem mirror : Try.prog.bearsReflect = false := by kernel_rfl
theorem door : Try.prog.doorFits [] = true := by kernel_rfl

theorem enters : Try.prog.mayEnter = true := enter_of _ word strip1 strip2 later mirror door
theorem made : (Try.prog.make == some Rows.fnPositionRoundTripsToOffsetRow.make) = true := by rw [make_of _ word]; rfl
theorem lifts : (Rows.fnPositionRoundTripsToOffsetRow.lifted == Try.prog.liftsFinal) = true := by rw [lifts_of _ word strip1]; rfl

theorem facts : joinedFacts Try.prog 8 Try.f8 Rows.fnPositionRoundTripsToOffsetSpec Rows.fnPositionRoundTripsToOffsetRow = true := by
  unfold joinedFacts
  simp only [Bool.and_eq_true]
  repeat' refine And.intro ?_ ?_
  all_goals first
    | with_reducible exact enters
    | with_reducible exact made
    | with_reducible exact lifts
    | kernel_rfl

end Go.Proofs.Qxb6000769a.fnPositionRoundTripsToOffset
