import Derived.Test.Qxb6615772aDoorRows
import Derived.WalkKit
import Derived.WalkSpells
import Derived.WalkLawsBesides
import Derived.Below
import Derived.BigQuiet
import Derived.BigRegion
import Derived.Deep.QuietTactic
import Derived.Deep.LoopGhost
import Derived.Deep.DeepCutAuto
import Derived.Deep.RegionWith
import Derived.Deep.RegionLaw
import Derived.Laws.CopyRow
import Derived.Laws.IdiomCopy
import Derived.Laws.BytesArg
import Derived.Laws.IdiomStrings
import Derived.Laws.StandIn
import Derived.Lib.Bytealg
import Derived.LaidEql
import Derived.Outline
namespace Go.Proofs.Qxb6615772aDoor.fnDec
open Go.RowKit

theorem newReader (s : ByteArray) (w : World) : Calls Tryd.prog 12 #[.string s] w fun e w' => e = .returned (.pointer (some ⟨w.heap.size, 0, none⟩)) ∧ w' = w.alloc (.cells #[.string s, .int .i64 0, .int .i64 (-1)] 45) := by
  go_enter Tryd.func12, Tryd.ntmps12
  go_wp2
  go_ret
  exact ⟨rfl, rfl⟩

theorem newScanner (r : Nat) (w : World) : Calls Tryd.prog 16 #[.iface 32 (.pointer (some ⟨r, 0, none⟩))] w fun e w' => e = .returned (.pointer (some ⟨w.heap.size, 0, none⟩)) ∧
    w' = w.alloc (.cells #[.iface 32 (.pointer (some ⟨r, 0, none⟩)), .func (.func 20) #[] #[], .int .i64 65536, .slice none 0 0, .slice none 0 0, .int .i64 0, .int .i64 0, .nilIface, .int .i64 0, .bool false, .bool false] 50) := by
  go_enter Tryd.func16, Tryd.ntmps16
  go_wp2
  go_ret
  exact ⟨rfl, rfl⟩

theorem newDecoder (r : Nat) (mx : Int) (w : World) : Calls Tryd.prog 11 #[.iface 32 (.pointer (some ⟨r, 0, none⟩)), .int .i64 mx] w fun e w' => e = .returned (.pointer (some ⟨w.heap.size + 1, 0, none⟩)) ∧
    w' = (w.alloc (.cells #[.iface 32 (.pointer (some ⟨r, 0, none⟩)), .func (.func 20) #[] #[], .int .i64 mx, .slice none 0 0, .slice none 0 0, .int .i64 0, .int .i64 0, .nilIface, .int .i64 0, .bool false, .bool false] 50)).alloc
      (.cells #[.pointer (some ⟨w.heap.size, 0, none⟩), .int .i64 mx, .int .i64 0] 36) := by
  have h17 : Calls Tryd.prog 17 #[.pointer (some ⟨w.heap.size, 0, none⟩), .slice none 0 0, .int .i64 mx] (w.alloc (.cells #[.iface 32 (.pointer (some ⟨r, 0, none⟩)), .func (.func 20) #[] #[], .int .i64 65536, .slice none 0 0, .slice none 0 0, .int .i64 0, .int .i64 0, .nilIface, .int .i64 0, .bool false, .bool false] 50)) fun e w' =>
      e = .returned (.tuple #[]) ∧ w' = w.alloc (.cells #[.iface 32 (.pointer (some ⟨r, 0, none⟩)), .func (.func 20) #[] #[], .int .i64 mx, .slice none 0 0, .slice none 0 0, .int .i64 0, .int .i64 0, .nilIface, .int .i64 0, .bool false, .bool false] 50) := by
    go_enter Tryd.func17, Tryd.ntmps17
    go_wp2
    go_end0
    exact ⟨rfl, rfl⟩
  go_enter Tryd.func11, Tryd.ntmps11
  go_wp2_with fail
  refine (newScanner _ _).mono ?_
  rintro e w1 ⟨rfl, rfl⟩
  go_wp2_with fail
  refine h17.mono ?_
  rintro e w1 ⟨rfl, rfl⟩
  go_wp2_with fail
  go_ret
  exact ⟨rfl, rfl⟩

theorem newDecoderOn (s : ByteArray) (mx : Int) (w : World) : Calls Tryd.prog 5 #[.string s, .int .i64 mx] w fun e w' => e = .returned (.pointer (some ⟨w.heap.size + 2, 0, none⟩)) ∧
    w' = ((w.alloc (.cells #[.string s, .int .i64 0, .int .i64 (-1)] 45)).alloc (.cells #[.iface 32 (.pointer (some ⟨w.heap.size, 0, none⟩)), .func (.func 20) #[] #[], .int .i64 mx, .slice none 0 0, .slice none 0 0, .int .i64 0, .int .i64 0, .nilIface, .int .i64 0, .bool false, .bool false] 50)).alloc
      (.cells #[.pointer (some ⟨w.heap.size + 1, 0, none⟩), .int .i64 mx, .int .i64 0] 36) := by
  go_enter Tryd.func5, Tryd.ntmps5
  go_wp2_with fail
  refine (newReader _ _).mono ?_
  rintro e w1 ⟨rfl, rfl⟩
  go_wp2_with fail
  refine (newDecoder _ _ _).mono ?_
  rintro e w1 ⟨rfl, rfl⟩
  go_wp2_with fail
  go_ret
  exact ⟨rfl, rfl⟩

end Go.Proofs.Qxb6615772aDoor.fnDec
