/-
  The walks of the two laws, given what the tables and the error's variable hold. Lemmas for this seat's laws.
-/
import Derived.Test.YtnoiijficdoglaaDoorSc
namespace Go.Proofs.YtnoiijficdoglaaDoor
open Go.ChangeShapes Go.WideShapes Go.ChangeAt Go.RowKit
set_option linter.unusedVariables false

theorem spec_9 (i : Int) (hi : (Lit.int .i64 i).wf = true) (w : World) :
    Calls Tryd.prog 9 #[.int .i64 i] w fun e w' => e = .returned (.tuple #[.int .i64 (valM (i * tp ((4 : Nat) : Int))), .bool (okM (i * tp ((4 : Nat) : Int)))]) ∧ w = w' := by
  have h := fun w => spec_8 i 4 (by omega) hi w
  have H := Lib.hid h
  clear h hi
  go_enter Tryd.func9, Tryd.ntmps9
  go_wp2_with (go_at_call 8; refine (H.out _).mono ?_; rintro e w' ⟨rfl, rfl⟩)
  go_ret2
  exact ⟨rfl, rfl⟩

theorem fnDecimalOf_walk (i : Int) (hi : (Lit.int .i64 i).wf = true) (w : World) (hw : Pows w) (t : TypeId) (u : Value) (he : Err w t u) :
    Calls Tryd.prog 3 #[.int .i64 i] w fun e w' => e = .returned (.bool true) ∧ Below w.heap.size w w' := by
  have h1 := fun w hw (he : Err w t u) => of_5 i hi w hw t u he
  have h2 := fun w hw (he : Err w t u) => nw_6 i 0 (by omega) (by omega) hi (fun h => absurd h (by omega)) w hw t u he
  have h3 := fun w => sc_7 i 4 (by omega) hi w
  have H1 := Lib.hid h1
  have H2 := Lib.hid h2
  have H3 := Lib.hid h3
  have HW := Lib.hid hw
  have HE := Lib.hid he
  clear h1 h2 h3 hi hw he
  go_enter Tryd.func3, Tryd.ntmps3
  go_wp2_with fail
  refine (H1.out _ HW.out HE.out).mono ?_
  rintro e1 w1 ⟨rfl, hb1⟩
  go_wp2_with fail
  refine (H2.out _ (HW.out.below HW.out.2.2 hb1) (HE.out.below HE.out.2 hb1)).mono ?_
  rintro e2 w2 ⟨rfl, hb2⟩
  go_wp2_with fail
  refine (H3.out _).mono ?_
  rintro e3 w3 ⟨rfl, rfl⟩
  go_wp2_with fail
  go_ret
  exact ⟨by simp, hb1.trans (hb2.mono hb1.size)⟩

theorem ref_no (i e V0 : Int) (b1 : -4 ≤ e) (b2 : e ≤ 14) (he : 0 ≤ e) (w : World)
    (h3 : Calls Tryd.prog 7 #[.int .i64 i, .int .i64 e] w fun e' w' => e' = .returned (.tuple #[.int .i64 V0, .bool false]) ∧ w = w') :
    Calls Tryd.prog 4 #[.int .i64 i, .int .i64 e] w fun e' w' => e' = .returned (.bool true) ∧ Below w.heap.size w w' := by
  have H3 := Lib.hid h3
  clear h3
  go_enter Tryd.func4, Tryd.ntmps4
  go_wp2_with fail
  refine H3.out.mono ?_
  rintro e1 w1 ⟨rfl, rfl⟩
  go_wp2_with fail
  go_ret
  exact ⟨rfl, Below.refl _ _⟩
theorem ref_yes (i e V0 V N : Int) (ok kk : Bool) (b1 : -4 ≤ e) (b2 : e ≤ 14) (s : Int) (he : (e < 0 ∧ s = 0) ∨ (0 ≤ e ∧ s = e)) (w : World)
    (h3 : Calls Tryd.prog 7 #[.int .i64 i, .int .i64 s] w fun e' w' => e' = .returned (.tuple #[.int .i64 V0, .bool true]) ∧ w = w')
    (h2 : Calls Tryd.prog 6 #[.int .i64 i, .int .i64 e] w fun e' w' => e' = .returned (.tuple #[.int .i64 V, .bool ok]) ∧ Below w.heap.size w w')
    (h5 : ∀ w, Calls Tryd.prog 8 #[.int .i64 i, .int .i64 e] w fun e' w' => e' = .returned (.tuple #[.int .i64 V, .bool ok]) ∧ w = w')
    (h1 : ∀ w', Below w.heap.size w w' → Calls Tryd.prog 5 #[.int .i64 i] w' fun e' w'' => e' = .returned (.tuple #[.int .i64 N, .bool kk]) ∧ Below w'.heap.size w' w'')
    (h4 : ∀ w, Calls Tryd.prog 9 #[.int .i64 i] w fun e' w' => e' = .returned (.tuple #[.int .i64 N, .bool kk]) ∧ w = w') :
    Calls Tryd.prog 4 #[.int .i64 i, .int .i64 e] w fun e' w' => e' = .returned (.bool true) ∧ Below w.heap.size w w' := by
  have H1 := Lib.hid h1
  have H2 := Lib.hid h2
  have H3 := Lib.hid h3
  have H4 := Lib.hid h4
  have H5 := Lib.hid h5
  clear h1 h2 h3 h4 h5
  rcases he with ⟨he, rfl⟩ | ⟨he, rfl⟩
  all_goals
    go_enter Tryd.func4, Tryd.ntmps4
    go_wp2_with fail
    refine H3.out.mono ?_
    rintro e1 w1 ⟨rfl, rfl⟩
    go_wp2_with fail
    refine H2.out.mono ?_
    rintro e2 w2 ⟨rfl, hb2⟩
    go_wp2_with fail
    refine (H5.out _).mono ?_
    rintro e3 w3 ⟨rfl, rfl⟩
    go_wp2_with fail
    refine (H1.out _ hb2).mono ?_
    rintro e4 w4 ⟨rfl, hb4⟩
    go_wp2_with fail
    refine (H4.out _).mono ?_
    rintro e5 w5 ⟨rfl, rfl⟩
    go_wp2_with fail
    go_ret
    exact ⟨rfl, hb2.trans (hb4.mono hb2.size)⟩
theorem fnDecimalReference_walk (i e : Int) (hi : (Lit.int .i64 i).wf = true) (w : World) (hw : Pows w) (t : TypeId) (u : Value) (he : Err w t u) :
    Calls Tryd.prog 4 #[.int .i64 i, .int .i64 e] w fun e' w' => e' = .returned (.bool true) ∧ Below w.heap.size w w' := by
  rcases Int.lt_or_le e (-4) with b1 | b1
  · clear hw he hi
    go_enter Tryd.func4, Tryd.ntmps4
    go_wp2_with fail
    go_ret
    exact ⟨rfl, Below.refl _ _⟩
  rcases Int.lt_or_le 14 e with b2 | b2
  · clear hw he hi
    go_enter Tryd.func4, Tryd.ntmps4
    go_wp2_with fail
    go_ret
    exact ⟨rfl, Below.refl _ _⟩
  have h4 := fun w => spec_9 i hi w
  have h1 := fun w' (hb : Below w.heap.size w w') => of_5 i hi w' (hw.below hw.2.2 hb) t u (he.below he.2 hb)
  have h5 : ∀ w, Calls Tryd.prog 8 #[.int .i64 i, .int .i64 e] w fun e' w' => e' = .returned (.tuple #[.int .i64 (valM (i * tp (4 + e))), .bool (okM (i * tp (4 + e)))]) ∧ w = w' := by
    obtain ⟨n, hn⟩ : ∃ n : Nat, e = -4 + (n : Int) := ⟨(e + 4).toNat, by omega⟩
    have h5 := fun w => spec_8 i n (by omega) hi w
    have : (n : Int) = 4 + e := by omega
    rw [← hn, this] at h5
    exact h5
  rcases Int.lt_or_le e 0 with b3 | b3
  · have h3 := sc_7 i 0 (by omega) hi w
    have h0 : okM (i * tp ((0 : Nat) : Int)) = true := by
      have := bounds_i64 hi
      rw [tp_nat, Int.pow_zero, Int.mul_one]; unfold okM; simp only [decide_eq_true_eq]; exact this
    rw [h0] at h3
    exact ref_yes i e _ _ _ _ _ b1 b2 0 (.inl ⟨b3, rfl⟩) w h3 (nw_6 i e b1 b2 hi (fun h => absurd h (by omega)) w hw t u he) h5 h1 h4
  · obtain ⟨k, rfl⟩ := Int.eq_ofNat_of_zero_le b3
    have h3 := sc_7 i k (by omega) hi w
    by_cases hf : okM (i * tp (k : Int)) = true
    · rw [hf] at h3
      have hm : (Lit.int .i64 (i * tp (k : Int))).wf = true := by unfold okM at hf; simp only [decide_eq_true_eq] at hf; exact WalkArith.wf_i64 hf
      exact ref_yes i k _ _ _ _ _ b1 b2 k (.inr ⟨b3, rfl⟩) w h3 (nw_6 i k b1 b2 hi (fun _ => hm) w hw t u he) h5 h1 h4
    · have hf' : okM (i * tp (k : Int)) = false := by simpa using hf
      rw [hf'] at h3
      exact ref_no i k _ b1 b2 b3 w h3
end Go.Proofs.YtnoiijficdoglaaDoor
