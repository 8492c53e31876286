/-
  Whatever the two integers: a sum doesn't depend on the order; it has an answer just if the wrapping sum lies on the side of a on which b says it lies; 0 changes nothing; a difference and a sum undo each other. No condition.
-/
import Derived.Test.YtmapfaclglicnaaRows
import Derived.WalkKit
import Derived.ProofKit
import Derived.OpenShut
import Derived.Carry
import Derived.Deep.RegionHeld3
import Derived.Lib.Hide
namespace Go.Proofs.Ytmapfaclglicnaa
open Go.ChangeShapes Go.WideShapes Go.ChangeAt Go.RowKit
set_option linter.unusedVariables false

def addB (a b : Int) : Bool := decide (a < wrap64 (a + b)) == decide (0 < b)
def subB (a b : Int) : Bool := decide (a < wrap64 (a - b)) == decide (b < 0)

theorem add_20 (a b : Int) (w : World) :
    Calls Try.prog 20 #[.int .i64 a, .int .i64 b] w fun e w' => e = .returned (.tuple #[.int .i64 (wrap64 (a + b)), .bool (addB a b)]) ∧ w = w' := by
  have h : addB a b = (decide (a < wrap64 (a + b)) == decide (0 < b)) := rfl
  rw [h]; clear h
  go_enter Try.func20, Try.ntmps20
  go_wp2
  all_goals (go_ret2; exact ⟨by simp_all, rfl⟩)

theorem sub_21 (a b : Int) (w : World) :
    Calls Try.prog 21 #[.int .i64 a, .int .i64 b] w fun e w' => e = .returned (.tuple #[.int .i64 (wrap64 (a - b)), .bool (subB a b)]) ∧ w = w' := by
  have h : subB a b = (decide (a < wrap64 (a - b)) == decide (b < 0)) := rfl
  rw [h]; clear h
  go_enter Try.func21, Try.ntmps21
  go_wp2
  all_goals (go_ret2; exact ⟨by simp_all, rfl⟩)

theorem add_16 (a b : Int) (w : World) :
    Calls Try.prog 16 #[.int .i64 a, .int .i64 b] w fun e w' => e = .returned (.tuple #[.int .i64 (wrap64 (a + b)), .bool (addB a b)]) ∧ w = w' := by
  go_enter Try.func16, Try.ntmps16
  go_wp2_with (go_at_call 20; refine (add_20 _ _ _).mono ?_; rintro e w' ⟨rfl, rfl⟩)
  all_goals (go_ret2; exact ⟨rfl, rfl⟩)
theorem sub_17 (a b : Int) (w : World) :
    Calls Try.prog 17 #[.int .i64 a, .int .i64 b] w fun e w' => e = .returned (.tuple #[.int .i64 (wrap64 (a - b)), .bool (subB a b)]) ∧ w = w' := by
  go_enter Try.func17, Try.ntmps17
  go_wp2_with (go_at_call 21; refine (sub_21 _ _ _).mono ?_; rintro e w' ⟨rfl, rfl⟩)
  all_goals (go_ret2; exact ⟨rfl, rfl⟩)
theorem add_7 (a b : Int) (w : World) :
    Calls Try.prog 7 #[.int .i64 a, .int .i64 b] w fun e w' => e = .returned (.tuple #[.int .i64 (wrap64 (a + b)), .bool (addB a b)]) ∧ w = w' := by
  go_enter Try.func7, Try.ntmps7
  go_wp2_with (go_at_call 16; refine (add_16 _ _ _).mono ?_; rintro e w' ⟨rfl, rfl⟩)
  all_goals (go_ret2; exact ⟨rfl, rfl⟩)
theorem sub_8 (a b : Int) (w : World) :
    Calls Try.prog 8 #[.int .i64 a, .int .i64 b] w fun e w' => e = .returned (.tuple #[.int .i64 (wrap64 (a - b)), .bool (subB a b)]) ∧ w = w' := by
  go_enter Try.func8, Try.ntmps8
  go_wp2_with (go_at_call 17; refine (sub_17 _ _ _).mono ?_; rintro e w' ⟨rfl, rfl⟩)
  all_goals (go_ret2; exact ⟨rfl, rfl⟩)
theorem bds {a : Int} (h : (Lit.int .i64 a).wf = true) : -9223372036854775808 ≤ a ∧ a ≤ 9223372036854775807 := by
  exact Go.bounds_i64 h
theorem addB_comm (a b : Int) (ha : (Lit.int .i64 a).wf = true) (hb : (Lit.int .i64 b).wf = true) : addB b a = addB a b := by
  have := bds ha; have := bds hb
  unfold addB wrap64; rw [Bool.eq_iff_iff, beq_iff_eq, beq_iff_eq, decide_eq_decide, decide_eq_decide]; omega
theorem addB_geq (a b : Int) (ha : (Lit.int .i64 a).wf = true) (hb : (Lit.int .i64 b).wf = true) : (decide (0 ≤ b) == decide (a ≤ wrap64 (a + b))) = addB a b := by
  have := bds ha; have := bds hb
  unfold addB wrap64; rw [Bool.eq_iff_iff, beq_iff_eq, beq_iff_eq, decide_eq_decide, decide_eq_decide]; omega
theorem wrap_self (a : Int) (ha : (Lit.int .i64 a).wf = true) : wrap64 a = a := IntWalk.wrap64_in a (bds ha)
theorem addB_zero (a : Int) (ha : (Lit.int .i64 a).wf = true) : addB a 0 = true := by
  have := bds ha
  unfold addB wrap64; rw [beq_iff_eq, decide_eq_decide]; omega
theorem add_sum (a b : Int) (ha : (Lit.int .i64 a).wf = true) (hb : (Lit.int .i64 b).wf = true) (h : addB a b = true) : wrap64 (a + b) = a + b ∧ (Lit.int .i64 (a + b)).wf = true := by
  have := bds ha; have := bds hb
  unfold addB wrap64 at h; rw [beq_iff_eq, decide_eq_decide] at h
  have e : wrap64 (a + b) = a + b := by unfold wrap64; omega
  exact ⟨e, by rw [← e]; exact wrap64_wf _⟩
theorem subB_back (a b : Int) (ha : (Lit.int .i64 a).wf = true) (hb : (Lit.int .i64 b).wf = true) (hs : (Lit.int .i64 (a + b)).wf = true) : subB (a + b) b = true ∧ wrap64 (a + b - b) = a := by
  have := bds ha; have := bds hb; have := bds hs
  unfold subB wrap64; rw [beq_iff_eq, decide_eq_decide]; omega

theorem fnAddLongs_walk (a b : Int) (w0 : (Lit.int .i64 a).wf = true) (w1 : (Lit.int .i64 b).wf = true) (w : World) :
    Calls Try.prog 4 #[.int .i64 a, .int .i64 b] w fun e w' => e = .returned (.bool true) ∧ Below w.heap.size w w' := by
  have k1 := addB_comm a b w0 w1
  have k2 := addB_geq a b w0 w1
  have k3 := wrap_self a w0
  have k4 := addB_zero a w0
  have k6 : wrap64 (b + a) = wrap64 (a + b) := by rw [Int.add_comm]
  by_cases h : addB a b = true
  · obtain ⟨k5, hs⟩ := add_sum a b w0 w1 h
    obtain ⟨k7, k8⟩ := subB_back a b w0 w1 hs
    have H5 := Lib.hid k5
    rw [h] at k1
    rw [h, k5] at k2
    rw [k5] at k6
    have HB := Lib.hid (bds hs)
    clear w0 w1 hs
    go_enter Try.func4, Try.ntmps4
    go_wp2_with (first | (go_at_call 7; refine (add_7 _ _ _).mono ?_; rintro e w' ⟨rfl, rfl⟩) | (go_at_call 8; refine (sub_8 _ _ _).mono ?_; rintro e w' ⟨rfl, rfl⟩))
    go_ret
    exact ⟨rfl, Below.refl _ _⟩
  · have h' : addB a b = false := by simpa using h
    clear h
    rw [h'] at k1 k2
    clear w0 w1
    go_enter Try.func4, Try.ntmps4
    go_wp2_with (first | (go_at_call 7; refine (add_7 _ _ _).mono ?_; rintro e w' ⟨rfl, rfl⟩) | (go_at_call 8; refine (sub_8 _ _ _).mono ?_; rintro e w' ⟨rfl, rfl⟩))
    go_ret
    exact ⟨rfl, Below.refl _ _⟩

theorem fnAddLongs_own : ownKnob Try.prog.godebug = none := by kernel_rfl
set_option maxRecDepth 100000 in
theorem fnAddLongs_lifted (os : Os) (started : os.Started) (H : Type) (enc : TypeId × Value → H) :
    ReturnsInHanded {} Try.checked os 4 .any (Rows.fnAddLongsSpec.pre6 enc Try.prog Try.f4 Rows.fnAddLongsRow.domain false) (Rows.fnAddLongsSpec.post enc Try.prog Try.f4 false true false false) := by
  refine returnsInHanded_of_change (C := Try.checked) fnAddLongs_own started (by kernel_rfl) Try.func4
    (ChangeSpec.witness6 (enc := enc) (C := Try.checked) false ⟨#[], #[.int .i64 0, .int .i64 0], []⟩ 8 (by kernel_rfl) (by kernel_rfl) (by kernel_rfl) (by kernel_rfl)) ?_
  intro W base args ds gs before hval0 hW hcnd _
  have hval : ∀ (j : Nat) t v, Try.f4.params[j]? = some t → args[j]? = some v → Value.okWide Try.prog W .any base t v := hval0
  have hW' := hW
  obtain ⟨p, q, hA0, hV, rfl, hfz, hnd⟩ := hW
  have hA : DataW.TrodAll enc Try.prog W 0 (fun _ => true) true Try.f4.params.toList args.toList ds p := hA0
  rw [Try.params4] at hA hval
  obtain ⟨v0, vs0, d0, ds0, p0, q0, hargs, rfl, rfl, h0, r0⟩ := trodAll_cons hA
  obtain ⟨v1, vs1, d1, ds1, p1, q1, rfl, rfl, rfl, h1, r1⟩ := trodAll_cons r0
  obtain ⟨rfl, rfl, rfl⟩ := trodAll_nil r1
  obtain rfl : args = #[v0, v1] := by cases args; simp_all
  obtain ⟨rfl, rfl⟩ := trodVars_none hV
  obtain ⟨a0, rfl, rfl, rfl, w0⟩ := open_int Try.underlying3 (hval 0 3 v0 rfl rfl) h0
  obtain ⟨a1, rfl, rfl, rfl, w1⟩ := open_int Try.underlying3 (hval 1 3 v1 rfl rfl) h1
  clear hA0 hval0
  refine (fnAddLongs_walk a0 a1 w0 w1 W).mono fun e W' ⟨he, bel⟩ => ?_
  subst he
  exact ⟨_, rfl, _, _, _, [], _, [], hW', trodAll_mk1 (shut_bool Try.underlying4 _), (trodAll_cons_mk (shut_int Try.underlying3 w0) (trodAll_cons_mk (shut_int Try.underlying3 w1) trodAll_mk0)), rfl, bel.frame _, fun h => by cases h⟩

theorem fnAddLongs_over : Rows.fnAddLongsRow.holds Try.pinned (OpenSpec.ofChange Rows.fnAddLongsSpec) :=
  OpenClaim.holds_of_wide 4 Try.f4 rfl rfl rfl rfl rfl rfl rfl ⟨rfl, rfl, rfl, rfl, rfl⟩ rfl rfl rfl rfl rfl (by kernel_rfl) Try.func4 (by kernel_rfl)
    (of_decide_eq_true (by kernel_rfl)) (by unfold Func.isWrapper; first | (rw [if_pos (by decide +kernel)]; kernel_rfl) | (rw [if_neg (by decide +kernel)]; exact ⟨rfl, rfl⟩))
    (fun os started H enc _ => fnAddLongs_lifted os started H enc)

theorem fnAddLongs_proved : Rows.FnAddLongsSaid := fnAddLongs_over
#print axioms fnAddLongs_proved
end Go.Proofs.Ytmapfaclglicnaa
