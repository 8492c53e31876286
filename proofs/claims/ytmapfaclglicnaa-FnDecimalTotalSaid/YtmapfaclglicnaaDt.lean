/-
  Whatever the three integers: decimals are in a total order: equal just if they are the same, one of two different ones ahead, and what is ahead of one that is ahead of another one is ahead of that. No condition.
-/
import Derived.Test.YtmapfaclglicnaaRows
import Derived.WalkKit
import Derived.ProofKit
import Derived.OpenShut
import Derived.Carry
import Derived.Lib.Hide
namespace Go.Proofs.Ytmapfaclglicnaa
open Go.ChangeShapes Go.WideShapes Go.ChangeAt Go.RowKit
set_option linter.unusedVariables false

def ordI (a b : Int) : Int := if a < b then -1 else if b < a then 1 else 0
theorem ordI_lt {a b : Int} (h : a < b) : ordI a b = -1 := by unfold ordI; rw [if_pos h]
theorem ordI_gt {a b : Int} (h : b < a) : ordI a b = 1 := by unfold ordI; rw [if_neg (by omega), if_pos h]
theorem ordI_eq (a : Int) : ordI a a = 0 := by unfold ordI; rw [if_neg (by omega), if_neg (by omega)]

theorem nan_23 (x : Int) (w : World) :
    Calls Try.prog 23 #[.int .i64 x] w fun e w' => e = .returned (.bool false) ∧ w = w' := by
  go_enter Try.func23, Try.ntmps23
  go_wp2
  go_ret
  exact ⟨by simp, rfl⟩
theorem cmp_22 (x y : Int) (w : World) :
    Calls Try.prog 22 #[.int .i64 x, .int .i64 y] w fun e w' => e = .returned (.int .i64 (ordI x y)) ∧ w = w' := by
  rcases Int.lt_trichotomy x y with h | h | h
  · rw [ordI_lt h]
    go_enter Try.func22, Try.ntmps22
    go_wp2_with (go_at_call 23; refine (nan_23 _ _).mono ?_; rintro e w' ⟨rfl, rfl⟩)
    go_ret
    exact ⟨rfl, rfl⟩
  · subst h
    rw [ordI_eq x]
    go_enter Try.func22, Try.ntmps22
    go_wp2_with (go_at_call 23; refine (nan_23 _ _).mono ?_; rintro e w' ⟨rfl, rfl⟩)
    go_ret
    exact ⟨rfl, rfl⟩
  · rw [ordI_gt h]
    go_enter Try.func22, Try.ntmps22
    go_wp2_with (go_at_call 23; refine (nan_23 _ _).mono ?_; rintro e w' ⟨rfl, rfl⟩)
    go_ret
    exact ⟨rfl, rfl⟩
theorem dec_18 (a : Int) (w : World) :
    Calls Try.prog 18 #[.int .i64 a] w fun e w' => e = .returned (.agg #[.int .i64 a]) ∧ Below w.heap.size w w' := by
  go_enter Try.func18, Try.ntmps18
  go_wp2
  exact bodyPost_ret (v := .agg #[.int .i64 a]) (by simp [results, Try.results18, go_sem]) rfl ⟨rfl, (Below.refl _ _).alloc (Nat.le_refl _) _⟩
theorem dcmp_19 (a b : Int) (w : World) :
    Calls Try.prog 19 #[.agg #[.int .i64 a], .agg #[.int .i64 b]] w fun e w' => e = .returned (.int .i64 (ordI a b)) ∧ Below w.heap.size w w' := by
  go_enter Try.func19, Try.ntmps19
  go_wp2_with (go_at_call 22; refine (cmp_22 _ _ _).mono ?_; rintro e w' ⟨rfl, rfl⟩)
  go_ret
  exact ⟨rfl, (((Below.refl _ _).alloc (Nat.le_refl _) _).alloc (by simp) _)⟩
theorem ord_9 (a b : Int) (w : World) :
    Calls Try.prog 9 #[.int .i64 a, .int .i64 b] w fun e w' => e = .returned (.int .i64 (ordI a b)) ∧ Below w.heap.size w w' := by
  go_enter Try.func9, Try.ntmps9
  go_wp2_with fail
  refine (dec_18 _ _).mono ?_
  rintro e w1 ⟨rfl, hb1⟩
  go_wp2_with fail
  refine (dec_18 _ _).mono ?_
  rintro e w2 ⟨rfl, hb2⟩
  go_wp2_with fail
  refine (dcmp_19 _ _ _).mono ?_
  rintro e w3 ⟨rfl, hb3⟩
  go_wp2_with fail
  go_ret
  exact ⟨rfl, (hb1.trans (hb2.mono hb1.size)).trans (hb3.mono (Nat.le_trans hb1.size hb2.size))⟩

theorem ordI_cases (a b : Int) : ordI a b = -1 ∨ ordI a b = 0 ∨ ordI a b = 1 := by unfold ordI; split <;> (try split) <;> simp
theorem ordI_neg (a b : Int) : ordI b a = - ordI a b := by unfold ordI; repeat' split <;> omega
theorem ordI_zero (a b : Int) : (a == b) = (ordI a b == 0) := by
  rw [Bool.eq_iff_iff, beq_iff_eq, beq_iff_eq]; unfold ordI; repeat' split <;> omega
theorem ordI_tr (a b c : Int) : (ordI a b = ordI b c → ordI a c = ordI a b) ∧ (ordI a b = 0 → ordI a c = ordI b c) := by
  unfold ordI; repeat' split <;> omega

theorem total_core (a b c x y z : Int) (hx : ordI a b = x) (hn : ordI b a = -x) (hy : ordI b c = y) (hz : ordI a c = z) (h01 : ordI 0 1 = -1)
    (he : (a == b) = (x == 0)) (hc : -1 ≤ x ∧ x ≤ 1) (h1 : (x != y) = true ∨ (x = y ∧ z = x)) (h2 : (x != 0) = true ∨ (x = 0 ∧ z = y)) (w : World) :
    Calls Try.prog 5 #[.int .i64 a, .int .i64 b, .int .i64 c] w fun e w' => e = .returned (.bool true) ∧ Below w.heap.size w w' := by
  have K := ord_9
  have H := Lib.hid K
  clear K
  rcases h1 with h1 | ⟨h1, h1'⟩ <;> rcases h2 with h2 | ⟨h2, h2'⟩ <;> (try subst h1) <;> (try subst h1') <;> (try subst h2) <;> (try subst h2')
  all_goals
    go_enter Try.func5, Try.ntmps5
    go_wp2_with fail
    refine (H.out _ _ _).mono ?_
    rintro e w1 ⟨rfl, hb1⟩
    go_wp2_with fail
    refine (H.out _ _ _).mono ?_
    rintro e w2 ⟨rfl, hb2⟩
    go_wp2_with fail
    refine (H.out _ _ _).mono ?_
    rintro e w3 ⟨rfl, hb3⟩
    go_wp2_with fail
    refine (H.out _ _ _).mono ?_
    rintro e w4 ⟨rfl, hb4⟩
    go_wp2_with fail
    refine (H.out _ _ _).mono ?_
    rintro e w5 ⟨rfl, hb5⟩
    go_wp2_with fail
    go_ret
    exact ⟨by first | rfl | simp, (((hb1.trans (hb2.mono hb1.size)).trans (hb3.mono (Nat.le_trans hb1.size hb2.size))).trans (hb4.mono (Nat.le_trans hb1.size (Nat.le_trans hb2.size hb3.size)))).trans
      (hb5.mono (Nat.le_trans hb1.size (Nat.le_trans hb2.size (Nat.le_trans hb3.size hb4.size))))⟩

theorem fnDecimalTotal_walk (a b c : Int) (w0 : (Lit.int .i64 a).wf = true) (w1 : (Lit.int .i64 b).wf = true) (w2 : (Lit.int .i64 c).wf = true) (w : World) :
    Calls Try.prog 5 #[.int .i64 a, .int .i64 b, .int .i64 c] w fun e w' => e = .returned (.bool true) ∧ Below w.heap.size w w' := by
  have t := ordI_tr a b c
  have k := ordI_cases a b
  refine total_core a b c _ _ _ rfl (ordI_neg a b) rfl rfl (ordI_lt (by decide)) (ordI_zero a b) (by omega) ?_ ?_ w
  · by_cases h : ordI a b = ordI b c
    · exact .inr ⟨h, t.1 h⟩
    · exact .inl (by simpa using h)
  · by_cases h : ordI a b = 0
    · exact .inr ⟨h, t.2 h⟩
    · exact .inl (by simpa using h)

theorem fnDecimalTotal_own : ownKnob Try.prog.godebug = none := by kernel_rfl
set_option maxRecDepth 100000 in
theorem fnDecimalTotal_lifted (os : Os) (started : os.Started) (H : Type) (enc : TypeId × Value → H) :
    ReturnsInHanded {} Try.checked os 5 .any (Rows.fnDecimalTotalSpec.pre6 enc Try.prog Try.f5 Rows.fnDecimalTotalRow.domain false) (Rows.fnDecimalTotalSpec.post enc Try.prog Try.f5 false true false false) := by
  refine returnsInHanded_of_change (C := Try.checked) fnDecimalTotal_own started (by kernel_rfl) Try.func5
    (ChangeSpec.witness6 (enc := enc) (C := Try.checked) false ⟨#[], #[.int .i64 0, .int .i64 0, .int .i64 0], []⟩ 8 (by kernel_rfl) (by kernel_rfl) (by kernel_rfl) (by kernel_rfl)) ?_
  intro W base args ds gs before hval0 hW hcnd _
  have hval : ∀ (j : Nat) t v, Try.f5.params[j]? = some t → args[j]? = some v → Value.okWide Try.prog W .any base t v := hval0
  have hW' := hW
  obtain ⟨p, q, hA0, hV, rfl, hfz, hnd⟩ := hW
  have hA : DataW.TrodAll enc Try.prog W 0 (fun _ => true) true Try.f5.params.toList args.toList ds p := hA0
  rw [Try.params5] at hA hval
  obtain ⟨v0, vs0, d0, ds0, p0, q0, hargs, rfl, rfl, h0, r0⟩ := trodAll_cons hA
  obtain ⟨v1, vs1, d1, ds1, p1, q1, rfl, rfl, rfl, h1, r1⟩ := trodAll_cons r0
  obtain ⟨v2, vs2, d2, ds2, p2, q2, rfl, rfl, rfl, h2, r2⟩ := trodAll_cons r1
  obtain ⟨rfl, rfl, rfl⟩ := trodAll_nil r2
  obtain rfl : args = #[v0, v1, v2] := by cases args; simp_all
  obtain ⟨rfl, rfl⟩ := trodVars_none hV
  obtain ⟨a0, rfl, rfl, rfl, w0⟩ := open_int Try.underlying3 (hval 0 3 v0 rfl rfl) h0
  obtain ⟨a1, rfl, rfl, rfl, w1⟩ := open_int Try.underlying3 (hval 1 3 v1 rfl rfl) h1
  obtain ⟨a2, rfl, rfl, rfl, w2⟩ := open_int Try.underlying3 (hval 2 3 v2 rfl rfl) h2
  clear hA0 hval0
  refine (fnDecimalTotal_walk a0 a1 a2 w0 w1 w2 W).mono fun e W' ⟨he, bel⟩ => ?_
  subst he
  exact ⟨_, rfl, _, _, _, [], _, [], hW', trodAll_mk1 (shut_bool Try.underlying4 _), (trodAll_cons_mk (shut_int Try.underlying3 w0) (trodAll_cons_mk (shut_int Try.underlying3 w1) (trodAll_cons_mk (shut_int Try.underlying3 w2) trodAll_mk0))), rfl, bel.frame _, fun h => by cases h⟩

theorem fnDecimalTotal_over : Rows.fnDecimalTotalRow.holds Try.pinned (OpenSpec.ofChange Rows.fnDecimalTotalSpec) :=
  OpenClaim.holds_of_wide 5 Try.f5 rfl rfl rfl rfl rfl rfl rfl ⟨rfl, rfl, rfl, rfl, rfl⟩ rfl rfl rfl rfl rfl (by kernel_rfl) Try.func5 (by kernel_rfl)
    (of_decide_eq_true (by kernel_rfl)) (by unfold Func.isWrapper; first | (rw [if_pos (by decide +kernel)]; kernel_rfl) | (rw [if_neg (by decide +kernel)]; exact ⟨rfl, rfl⟩))
    (fun os started H enc _ => fnDecimalTotal_lifted os started H enc)

theorem fnDecimalTotal_proved : Rows.FnDecimalTotalSaid := fnDecimalTotal_over
#print axioms fnDecimalTotal_proved
end Go.Proofs.Ytmapfaclglicnaa
