/-
  What the rows' listed variables give the walks, and that the program's own initialisers meet it. Lemmas for this seat's laws.
-/
import Derived.Test.YtjbehjihpjdimaaDoorCards
import Derived.Test.YtjbehjihpjdimaaDoorTie
import Derived.Test.YtjbehjihpjdimaaDoorLaw
import Derived.LaidMore
import Derived.Stop.Joined
import Derived.Deep.DeepHandedRow
import Derived.Deep.DeepWitnessRowRef
import Derived.Lib.LaidTab
namespace Go.Proofs.YtjbehjihpjdimaaDoor
open Go.ChangeShapes Go.WideShapes Go.ChangeAt Go.RowKit
set_option linter.unusedVariables false

theorem gTab : Tryd.prog.globalNamed "internal/strconv.uint64pow10" = some 0 := by kernel_rfl
theorem tTab : (Tryd.prog.globals[0]?).map (·.type) = some 39 := by kernel_rfl
theorem c31 : Tryd.prog.cellsOf 31 = 1 := by kernel_rfl
theorem c39 : Tryd.prog.cellsOf 39 = 20 := by kernel_rfl
theorem tabD : (Rows.laid_internal_strconv_uint64pow10 : DataW Unit) = Lib.tabData .u64 Lib.pow10Tab := by kernel_rfl

/-- WHAT THE ROW's LIST GIVES THE WALKS. -/
theorem of_laid {W : World} (h : laidMetH Tryd.prog Rows.fnDecimalShortRow.laid W) : Tab W := by
  rw [MakeChecks.laidMetH_plain _ _ _ (by kernel_rfl)] at h
  obtain ⟨ps, ⟨g0, t0, cs0, f0, p0, q0, hg0, ht0, hv0, hd0, ⟨g1, t1, cs1, f1, p1, q1, hg1, ht1, hv1, hd1, ⟨g2, t2, cs2, f2, p2, q2, hg2, ht2, hv2, hd2, _, _⟩, _⟩, _⟩, _⟩ := h
  obtain rfl := Option.some.inj (gTab.symm.trans hg2)
  obtain rfl := Option.some.inj (tTab.symm.trans ht2)
  rw [tabD] at hd2
  have e2 : cs2.toList = Lib.pow10Tab.map fun z => Value.int .u64 z := Lib.cells_of_tab Tryd.underlying39 Tryd.underlying31 c31 c39 hd2
  unfold Tab Lib.TabIs
  rw [hv2, ← e2]

theorem door_met (os : Os) (args : Array Value) : laidMetH Tryd.prog Rows.fnDecimalShortRow.laid ((World.doorLaid Tryd.prog 24 os).forCall (fun _ _ => 0) ⟨#[], args, []⟩).memory :=
  laidMetH_of_parts3 (fuel := 8) (laidMet_of_run' 8 (by kernel_rfl) (by kernel_rfl)) (by kernel_rfl) (by kernel_rfl)

theorem fnDecimalShort_walk (a0 : Int) (w0 : (Lit.int .i64 a0).wf = true) (w : World) (ht : Tab w) :
    Calls Tryd.prog 3 #[.int .i64 a0] w fun e w' => e = .returned (.bool true) ∧ Below w.heap.size w w' := by
  simp [Lit.wf, show IntKind.i64.min = -9223372036854775808 by rfl, show IntKind.i64.max = 9223372036854775807 by rfl] at w0
  exact law_main a0 (by omega) (by omega) w ht
end Go.Proofs.YtjbehjihpjdimaaDoor
