import Derived.Test.Qxb6615772aDoorW3
namespace Go.Proofs.Qxb6615772aDoor.fnDec
open Go.RowKit

/-- The scanner's block. -/
def scB (r : Nat) (mx : Int) (tok buf : Value) (st en : Nat) (err : Value) (emp : Int) (cal : Bool) : Array Value :=
  #[.iface 32 (.pointer (some ⟨r, 0, none⟩)), .func (.func 20) #[] #[], .int .i64 mx, tok, buf, .int .i64 (st : Int), .int .i64 (en : Int), err, .int .i64 emp, .bool cal, .bool false]

/-- The reader's, the scanner's and the decoder's blocks stand at r, r + 1, r + 2, and below r nothing has turned. -/
structure Core (r : Nat) (S : List UInt8) (mx : Int) (w0 w : World) (pos : Nat) (tok buf : Value) (st en : Nat) (err : Value) : Prop where
  sc : ∃ emp cal, w.heap[r + 1]? = some (.cells (scB r mx tok buf st en err emp cal) 50 (0, 0))
  rd : ∃ pr, w.heap[r]? = some (.cells #[.string ⟨S.toArray⟩, .int .i64 (pos : Int), .int .i64 pr] 45 (0, 0))
  dc : w.heap[r + 2]? = some (.cells #[.pointer (some ⟨r + 1, 0, none⟩), .int .i64 mx, .int .i64 0] 36 (0, 0))
  below : Below r w0 w

/-- The buffer's block. -/
def Buf (r : Nat) (w : World) (B : Nat) (cur : List UInt8) : Prop := w.heap[B]? = some (.cells (bc cur).toArray 5 (0, 0)) ∧ r + 3 ≤ B

section
variable {r : Nat} {S : List UInt8} {mx : Int} {w0 w : World} {pos : Nat} {tok buf : Value} {st en : Nat} {err : Value}

theorem Core.lt (h : Core r S mx w0 w pos tok buf st en err) : r + 2 < w.heap.size := (Array.getElem?_eq_some_iff.1 h.dc).1

/-- What a walk reads of the scanner. -/
theorem Core.cells (h : Core r S mx w0 w pos tok buf st en err) :
    w.cell? ⟨r + 1, 0, none⟩ = some (.iface 32 (.pointer (some ⟨r, 0, none⟩))) ∧ w.cell? ⟨r + 1, 1, none⟩ = some (.func (.func 20) #[] #[]) ∧ w.cell? ⟨r + 1, 2, none⟩ = some (.int .i64 mx) ∧
    w.cell? ⟨r + 1, 3, none⟩ = some tok ∧ w.cell? ⟨r + 1, 4, none⟩ = some buf ∧ w.cell? ⟨r + 1, 5, none⟩ = some (.int .i64 (st : Int)) ∧ w.cell? ⟨r + 1, 6, none⟩ = some (.int .i64 (en : Int)) ∧
    w.cell? ⟨r + 1, 7, none⟩ = some err ∧ (∃ emp, w.cell? ⟨r + 1, 8, none⟩ = some (.int .i64 emp)) ∧ (∃ b, w.cell? ⟨r + 1, 9, none⟩ = some (.bool b)) ∧ w.cell? ⟨r + 1, 10, none⟩ = some (.bool false) ∧ (∀ j, w.frozen? ⟨r + 1, j, none⟩ = false) := by
  obtain ⟨emp, cal, hs⟩ := h.sc
  refine ⟨?_, ?_, ?_, ?_, ?_, ?_, ?_, ?_, ⟨emp, ?_⟩, ⟨cal, ?_⟩, ?_, fun j => ?_⟩ <;> simp [World.cell?, World.frozen?, hs, scB]

theorem heap_setCell_at {w : World} {b i : Nat} {v : Value} {C : Array Value} {t : TypeId} (h : w.heap[b]? = some (.cells C t (0, 0))) : (w.setCell ⟨b, i, none⟩ v).heap[b]? = some (.cells (C.setIfInBounds i v) t (0, 0)) := by
  simp [World.setCell, Array.getElem?_modify, h]

theorem Core.drewN (h : Core r S mx w0 w pos tok buf st en err) (n : Nat) : Core r S mx w0 (w.drewN n) pos tok buf st en err :=
  ⟨h.sc, h.rd, h.dc, below_drewN h.below n⟩

theorem Core.set (h : Core r S mx w0 w pos tok buf st en err) (i : Nat) (v : Value) {tok' buf' : Value} {st' en' : Nat} {err' : Value}
    (hc : ∀ emp cal, ∃ emp' cal', (scB r mx tok buf st en err emp cal).setIfInBounds i v = scB r mx tok' buf' st' en' err' emp' cal') : Core r S mx w0 (w.setCell ⟨r + 1, i, none⟩ v) pos tok' buf' st' en' err' := by
  obtain ⟨emp, cal, hs⟩ := h.sc
  obtain ⟨emp', cal', e⟩ := hc emp cal
  refine ⟨⟨emp', cal', ?_⟩, ?_, ?_, h.below.setCell (by simp) v⟩
  · rw [heap_setCell_at hs, e]
  · obtain ⟨pr, hr⟩ := h.rd
    exact ⟨pr, by rw [Below.heap_setCell _ _ _ _ (by simp)]; exact hr⟩
  · rw [Below.heap_setCell _ _ _ _ (by simp)]
    exact h.dc

theorem Core.setTok (h : Core r S mx w0 w pos tok buf st en err) (v : Value) : Core r S mx w0 (w.setCell ⟨r + 1, 3, none⟩ v) pos v buf st en err := h.set 3 v fun emp cal => ⟨emp, cal, rfl⟩
theorem Core.setBuf (h : Core r S mx w0 w pos tok buf st en err) (v : Value) : Core r S mx w0 (w.setCell ⟨r + 1, 4, none⟩ v) pos tok v st en err := h.set 4 v fun emp cal => ⟨emp, cal, rfl⟩
theorem Core.setSt (h : Core r S mx w0 w pos tok buf st en err) (n : Nat) : Core r S mx w0 (w.setCell ⟨r + 1, 5, none⟩ (.int .i64 (n : Int))) pos tok buf n en err := h.set 5 _ fun emp cal => ⟨emp, cal, rfl⟩
theorem Core.setEn (h : Core r S mx w0 w pos tok buf st en err) (n : Nat) : Core r S mx w0 (w.setCell ⟨r + 1, 6, none⟩ (.int .i64 (n : Int))) pos tok buf st n err := h.set 6 _ fun emp cal => ⟨emp, cal, rfl⟩
theorem Core.setEr (h : Core r S mx w0 w pos tok buf st en err) (v : Value) : Core r S mx w0 (w.setCell ⟨r + 1, 7, none⟩ v) pos tok buf st en v := h.set 7 _ fun emp cal => ⟨emp, cal, rfl⟩
theorem Core.setEmp (h : Core r S mx w0 w pos tok buf st en err) (n : Int) : Core r S mx w0 (w.setCell ⟨r + 1, 8, none⟩ (.int .i64 n)) pos tok buf st en err := h.set 8 _ fun _ cal => ⟨n, cal, rfl⟩
theorem Core.setCal (h : Core r S mx w0 w pos tok buf st en err) (b : Bool) : Core r S mx w0 (w.setCell ⟨r + 1, 9, none⟩ (.bool b)) pos tok buf st en err := h.set 9 _ fun emp _ => ⟨emp, b, rfl⟩

theorem Core.alloc (h : Core r S mx w0 w pos tok buf st en err) (o : Obj) : Core r S mx w0 (w.alloc o) pos tok buf st en err := by
  have hl := h.lt
  obtain ⟨emp, cal, hs⟩ := h.sc
  obtain ⟨pr, hr⟩ := h.rd
  exact ⟨⟨emp, cal, by rw [Below.heap_alloc _ _ _ (by omega)]; exact hs⟩, ⟨pr, by rw [Below.heap_alloc _ _ _ (by omega)]; exact hr⟩, by rw [Below.heap_alloc _ _ _ (by omega)]; exact h.dc, h.below.alloc (by omega) o⟩

theorem Core.setRow (h : Core r S mx w0 w pos tok buf st en err) (B : Nat) (hB : r + 3 ≤ B) (C : Array Value) : Core r S mx w0 (w.setRow B C) pos tok buf st en err := by
  obtain ⟨emp, cal, hs⟩ := h.sc
  obtain ⟨pr, hr⟩ := h.rd
  exact ⟨⟨emp, cal, by rw [setRow_other _ _ _ _ (by omega)]; exact hs⟩, ⟨pr, by rw [setRow_other _ _ _ _ (by omega)]; exact hr⟩, by rw [setRow_other _ _ _ _ (by omega)]; exact h.dc,
    h.below.trans ⟨rfl, rfl, rfl, by simp, fun k hk => setRow_other _ _ _ _ (by omega)⟩⟩

theorem Buf.drewN {B : Nat} {cur : List UInt8} (h : Buf r w B cur) (n : Nat) : Buf r (w.drewN n) B cur := h
theorem Buf.set {B : Nat} {cur : List UInt8} (h : Buf r w B cur) (i : Nat) (v : Value) : Buf r (w.setCell ⟨r + 1, i, none⟩ v) B cur :=
  ⟨by rw [Below.heap_setCell _ _ _ _ (by have := h.2; show B ≠ r + 1; omega)]; exact h.1, h.2⟩
theorem Buf.cell {B : Nat} {cur : List UInt8} (h : Buf r w B cur) (j : Nat) (hj : j < cur.length) : w.cell? ⟨B, j, none⟩ = some (.int .u8 (cur[j].toNat : Int)) := by
  have := bc_get cur j hj
  simp [World.cell?, h.1, this]
theorem Buf.holds {B : Nat} {cur : List UInt8} (h : Buf r w B cur) (st : Nat) (x : List UInt8) (hx : ∀ j (hj : j < x.length), ∃ hc : st + j < cur.length, cur[st + j] = x[j]) : Holds w B st x := fun j hj => by
  obtain ⟨hc, e⟩ := hx j hj
  rw [h.cell (st + j) hc, e]
end

/-- The buffer's value: nil before the first read. -/
def bufV (B L : Nat) : Value := if L = 0 then .slice none 0 0 else .slice (some ⟨B, 0, none⟩) L L

/-- A line: up to the newline. -/
def ln (x : List UInt8) : List UInt8 := x.takeWhile (· != 10)

end Go.Proofs.Qxb6615772aDoor.fnDec
