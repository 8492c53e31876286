/-
  What the rows' listed variables give the walks, and that the program's own initialisers meet it. Lemmas for this seat's laws.
-/
import Derived.Test.YtbgmlpckamnnaaaDoorCards
import Derived.Test.YtbgmlpckamnnaaaDoorTie
import Derived.Test.YtbgmlpckamnnaaaDoorLaw
import Derived.LaidMore
import Derived.Stop.Joined
import Derived.Deep.DeepHandedRow
import Derived.Deep.DeepWitnessRowRef
import Derived.Lib.LaidTab
import Derived.Lib.LaidIn
import Derived.Lib.LaidU8T
import Derived.Lay
import Derived.PinnedBridge
namespace Go.Proofs.YtbgmlpckamnnaaaDoor
open Go.ChangeShapes Go.WideShapes Go.ChangeAt Go.RowKit
set_option linter.unusedVariables false

theorem laid_eq : Rows.fnUnescapeJoinedRow.laid = [("unicode/utf8.acceptRanges", Lib.acceptData), ("unicode/utf8.first", Lib.firstData)] := by kernel_rfl
theorem cell_lt {w : World} {a : Addr} {v : Value} (h : w.cell? a = some v) : a.block < w.heap.size := by
  rcases Nat.lt_or_ge a.block w.heap.size with hlt | hge
  · exact hlt
  · simp [World.cell?, Array.getElem?_eq_none hge] at h
/-- WHAT THE ROW's LIST GIVES THE WALKS. -/
theorem of_laid {W : World} (h : laidMetH Tryd.prog Rows.fnUnescapeJoinedRow.laid W) : Tabs W := by
  rw [MakeChecks.laidMetH_plain _ _ _ (by kernel_rfl), laid_eq] at h
  have ht : Lib.Utf8Tabs 0 1 W := utf8Tabs_of_readsT (U8Types.of196 Tryd.laysValid) ⟨by kernel_rfl, by kernel_rfl, by kernel_rfl, by kernel_rfl, by kernel_rfl, by kernel_rfl, by kernel_rfl⟩ (Lib.laidMet.reads h (.tail _ (.head _))) (Lib.laidMet.reads h (.head _))
  refine ⟨ht, ?_⟩
  have := (ht.2 0 (by decide)).1
  exact cell_lt this

theorem door_met (os : Os) (args : Array Value) : laidMetH Tryd.prog Rows.fnUnescapeJoinedRow.laid ((World.laidAll Tryd.prog os Rows.fnUnescapeJoinedRow.laid).forCall (fun _ _ => 0) ⟨#[], args, []⟩).memory := by
  rw [MakeChecks.laidMetH_plain _ _ _ (by kernel_rfl)]
  exact laidMet_laidAll _ (by kernel_rfl) (by kernel_rfl)
end Go.Proofs.YtbgmlpckamnnaaaDoor
