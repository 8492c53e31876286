/-
  Whatever the integer: the days, hours, minutes, seconds and milliseconds of a duration are it, divided (toward zero) by as many milliseconds as each has. No condition.
-/
import Derived.Test.YtmapfaclglicnaaRows
import Derived.WalkKit
import Derived.ProofKit
import Derived.OpenShut
import Derived.Carry
import Derived.Deep.RegionHeld3
import Derived.Lib.Hide
namespace Go.Proofs.Ytmapfaclglicnaa
open Go.ChangeShapes Go.WideShapes Go.ChangeAt Go.RowKit
set_option linter.unusedVariables false

theorem dur_new (a : Int) (w : World) :
    Calls Try.prog 10 #[.int .i64 a] w fun e w' => e = .returned (.agg #[.int .i64 a]) ∧ Below w.heap.size w w' := by
  go_enter Try.func10, Try.ntmps10
  go_wp2
  exact bodyPost_ret (v := .agg #[.int .i64 a]) (by simp [results, Try.results10, go_sem]) rfl ⟨rfl, (Below.refl _ _).alloc (Nat.le_refl _) _⟩

theorem dur_11 (a : Int) (w : World) :
    Calls Try.prog 11 #[.agg #[.int .i64 a]] w fun e w' => e = .returned (.int .i64 (wrap64 (a.tdiv 86400000))) ∧ Below w.heap.size w w' := by
  go_enter Try.func11, Try.ntmps11
  go_wp2
  go_ret
  exact ⟨rfl, (Below.refl _ _).alloc (Nat.le_refl _) _⟩

theorem dur_12 (a : Int) (w : World) :
    Calls Try.prog 12 #[.agg #[.int .i64 a]] w fun e w' => e = .returned (.int .i64 (wrap64 (a.tdiv 3600000))) ∧ Below w.heap.size w w' := by
  go_enter Try.func12, Try.ntmps12
  go_wp2
  go_ret
  exact ⟨rfl, (Below.refl _ _).alloc (Nat.le_refl _) _⟩

theorem dur_13 (a : Int) (w : World) :
    Calls Try.prog 13 #[.agg #[.int .i64 a]] w fun e w' => e = .returned (.int .i64 (wrap64 (a.tdiv 60000))) ∧ Below w.heap.size w w' := by
  go_enter Try.func13, Try.ntmps13
  go_wp2
  go_ret
  exact ⟨rfl, (Below.refl _ _).alloc (Nat.le_refl _) _⟩

theorem dur_14 (a : Int) (w : World) :
    Calls Try.prog 14 #[.agg #[.int .i64 a]] w fun e w' => e = .returned (.int .i64 (wrap64 (a.tdiv 1000))) ∧ Below w.heap.size w w' := by
  go_enter Try.func14, Try.ntmps14
  go_wp2
  go_ret
  exact ⟨rfl, (Below.refl _ _).alloc (Nat.le_refl _) _⟩

theorem dur_15 (a : Int) (w : World) :
    Calls Try.prog 15 #[.agg #[.int .i64 a]] w fun e w' => e = .returned (.int .i64 a) ∧ Below w.heap.size w w' := by
  go_enter Try.func15, Try.ntmps15
  go_wp2
  go_ret
  exact ⟨rfl, (Below.refl _ _).alloc (Nat.le_refl _) _⟩

structure Held (b : Nat) (v : Value) (B : Nat) (w0 w : World) : Prop where
  cell : w.cell? ⟨b, 0, none⟩ = some v
  lt : b < w.heap.size
  le : B ≤ w.heap.size
  bel : Below B w0 w
theorem Held.drew {b : Nat} {v : Value} {B : Nat} {w0 w : World} (h : Held b v B w0 w) : Held b v B w0 w.drew := ⟨h.cell, h.lt, h.le, h.bel.drew⟩
theorem Held.next {b : Nat} {v : Value} {B : Nat} {w0 w w' : World} (h : Held b v B w0 w) (k : Below w.heap.size w w') : Held b v B w0 w' :=
  ⟨(k.cell (p := ⟨b, 0, none⟩) h.lt).trans h.cell, Nat.lt_of_lt_of_le h.lt k.size, Nat.le_trans h.le k.size, h.bel.trans (k.mono h.le)⟩

theorem heldNext {b : Nat} {v : Value} {B : Nat} {w0 w w' : World} (h : w.cell? ⟨b, 0, none⟩ = some v ∧ Held b v B w0 w) (k : Below w.heap.size w w') : w'.cell? ⟨b, 0, none⟩ = some v ∧ Held b v B w0 w' :=
  ⟨(h.2.next k).cell, h.2.next k⟩

theorem dur_parts (a : Int) (w : World) :
    Calls Try.prog 6 #[.int .i64 a] w fun e w' => e = .returned (.tuple #[.int .i64 (wrap64 (a.tdiv 86400000)), .int .i64 (wrap64 (a.tdiv 3600000)), .int .i64 (wrap64 (a.tdiv 60000)), .int .i64 (wrap64 (a.tdiv 1000)), .int .i64 a]) ∧ Below w.heap.size w w' := by
  go_enter Try.func6, Try.ntmps6
  go_wp2_with fail
  refine (dur_new _ _).mono ?_
  rintro e w1 ⟨rfl, hb⟩
  go_wp2_with fail
  have HS : Held w1.heap.size (.int .i64 a) w.heap.size w (w1.alloc (Obj.cells #[Value.int IntKind.i64 a] 31)) := ⟨by simp, by simp, by simp; have := hb.size; omega, hb.alloc hb.size _⟩
  clear hb
  go_region_held3 (fun w' => w'.cell? ⟨w1.heap.size, 0, none⟩ = some (.int .i64 a) ∧ Held w1.heap.size (.int .i64 a) w.heap.size w w')
    (first | exact ⟨HS.drew.1, HS.drew⟩ | exact heldNext (by assumption) hb')
    (first | (go_at_call 11; refine (dur_11 _ _).mono ?_; rintro e w' ⟨rfl, hb'⟩) | (go_at_call 12; refine (dur_12 _ _).mono ?_; rintro e w' ⟨rfl, hb'⟩) | (go_at_call 13; refine (dur_13 _ _).mono ?_; rintro e w' ⟨rfl, hb'⟩) | (go_at_call 14; refine (dur_14 _ _).mono ?_; rintro e w' ⟨rfl, hb'⟩) | (go_at_call 15; refine (dur_15 _ _).mono ?_; rintro e w' ⟨rfl, hb'⟩))
  rename_i hh
  have HE := hh.2.bel
  clear hh
  go_wp2_with fail
  exact bodyPost_ret (v := .tuple #[.int .i64 (wrap64 (a.tdiv 86400000)), .int .i64 (wrap64 (a.tdiv 3600000)), .int .i64 (wrap64 (a.tdiv 60000)), .int .i64 (wrap64 (a.tdiv 1000)), .int .i64 a]) (by simp [results, Try.results6, go_sem]) rfl ⟨rfl, HE⟩

theorem fnDurationParts_walk (a0 : Int) (w0 : (Lit.int .i64 a0).wf = true) (w : World) :
    Calls Try.prog 3 #[.int .i64 a0] w fun e w' => e = .returned (.bool true) ∧ Below w.heap.size w w' := by
  go_enter Try.func3, Try.ntmps3
  go_wp2_with (go_at_call 6; refine (dur_parts _ _).mono ?_; rintro e w' ⟨rfl, hb⟩)
  go_ret
  exact ⟨rfl, by assumption⟩

theorem fnDurationParts_own : ownKnob Try.prog.godebug = none := by kernel_rfl
set_option maxRecDepth 100000 in
theorem fnDurationParts_lifted (os : Os) (started : os.Started) (H : Type) (enc : TypeId × Value → H) :
    ReturnsInHanded {} Try.checked os 3 .any (Rows.fnDurationPartsSpec.pre6 enc Try.prog Try.f3 Rows.fnDurationPartsRow.domain false) (Rows.fnDurationPartsSpec.post enc Try.prog Try.f3 false true false false) := by
  refine returnsInHanded_of_change (C := Try.checked) fnDurationParts_own started (by kernel_rfl) Try.func3
    (ChangeSpec.witness6 (enc := enc) (C := Try.checked) false ⟨#[], #[.int .i64 0], []⟩ 8 (by kernel_rfl) (by kernel_rfl) (by kernel_rfl) (by kernel_rfl)) ?_
  intro W base args ds gs before hval0 hW hcnd _
  have hval : ∀ (j : Nat) t v, Try.f3.params[j]? = some t → args[j]? = some v → Value.okWide Try.prog W .any base t v := hval0
  have hW' := hW
  obtain ⟨p, q, hA0, hV, rfl, hfz, hnd⟩ := hW
  have hA : DataW.TrodAll enc Try.prog W 0 (fun _ => true) true Try.f3.params.toList args.toList ds p := hA0
  rw [Try.params3] at hA hval
  obtain ⟨v0, vs0, d0, ds0, p0, q0, hargs, rfl, rfl, h0, r0⟩ := trodAll_cons hA
  obtain ⟨rfl, rfl, rfl⟩ := trodAll_nil r0
  obtain rfl : args = #[v0] := by cases args; simp_all
  obtain ⟨rfl, rfl⟩ := trodVars_none hV
  obtain ⟨a0, rfl, rfl, rfl, w0⟩ := open_int Try.underlying3 (hval 0 3 v0 rfl rfl) h0
  clear hA0 hval0
  refine (fnDurationParts_walk a0 w0 W).mono fun e W' ⟨he, bel⟩ => ?_
  subst he
  exact ⟨_, rfl, _, _, _, [], _, [], hW', trodAll_mk1 (shut_bool Try.underlying4 _), (trodAll_cons_mk (shut_int Try.underlying3 w0) trodAll_mk0), rfl, bel.frame _, fun h => by cases h⟩

theorem fnDurationParts_over : Rows.fnDurationPartsRow.holds Try.pinned (OpenSpec.ofChange Rows.fnDurationPartsSpec) :=
  OpenClaim.holds_of_wide 3 Try.f3 rfl rfl rfl rfl rfl rfl rfl ⟨rfl, rfl, rfl, rfl, rfl⟩ rfl rfl rfl rfl rfl (by kernel_rfl) Try.func3 (by kernel_rfl)
    (of_decide_eq_true (by kernel_rfl)) (by unfold Func.isWrapper; first | (rw [if_pos (by decide +kernel)]; kernel_rfl) | (rw [if_neg (by decide +kernel)]; exact ⟨rfl, rfl⟩))
    (fun os started H enc _ => fnDurationParts_lifted os started H enc)

theorem fnDurationParts_proved : Rows.FnDurationPartsSaid := fnDurationParts_over
#print axioms fnDurationParts_proved
end Go.Proofs.Ytmapfaclglicnaa
