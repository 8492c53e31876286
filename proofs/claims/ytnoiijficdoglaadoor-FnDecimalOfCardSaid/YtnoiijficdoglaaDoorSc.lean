/-
  What the statements' scaled and the reference's Mul and NewDecimal return. Lemmas for this seat's laws.
-/
import Derived.Test.YtnoiijficdoglaaDoorNew
import Derived.LoopTactic
namespace Go.Proofs.YtnoiijficdoglaaDoor
open Go.ChangeShapes Go.WideShapes Go.ChangeAt Go.RowKit
set_option linter.unusedVariables false

theorem tp_nat (k : Nat) : tp (k : Int) = 10 ^ k := by unfold tp; rw [Int.toNat_natCast]
theorem tp_succ (k : Nat) : tp ((k + 1 : Nat) : Int) = tp (k : Int) * 10 := by rw [tp_nat, tp_nat, Int.pow_succ]
theorem mono_in (i : Int) (j k : Nat) (h : j ≤ k) (hk : okM (i * tp (k : Int)) = true) : okM (i * tp (j : Int)) = true := by
  induction k with
  | zero => obtain rfl : j = 0 := by omega
            exact hk
  | succ k ih =>
    rcases Nat.lt_or_ge k j with hj | hj
    · obtain rfl : j = k + 1 := by omega
      exact hk
    · refine ih hj ?_
      rw [tp_succ, ← Int.mul_assoc] at hk
      unfold okM at hk ⊢
      simp only [decide_eq_true_eq] at hk ⊢
      omega

/-- 'scaled' where all goes well. -/
theorem sc_ok (i : Int) (k : Nat) (hk : k ≤ 18) (h : okM (i * tp (k : Int)) = true) (w : World) :
    Calls Tryd.prog 7 #[.int .i64 i, .int .i64 (k : Int)] w fun e w' => e = .returned (.tuple #[.int .i64 (i * tp (k : Int)), .bool true]) ∧ w = w' := by
  have HM := Lib.hid (mono_in i)
  have H := Lib.hid h
  clear h
  go_enter Tryd.func7, Tryd.ntmps7
  go_wp2_with fail
  go_loop [0, 6] (fun n c => ∃ j : Nat, j ≤ k ∧ c = .int .i64 (j : Int) ∧ n = .int .i64 (i * tp (j : Int))) (fun _ c => k - (intOf c).toNat)
  case atStart => exact ⟨0, by omega, rfl, by rw [tp_nat]; simp⟩
  case round =>
    obtain ⟨j, hj, rfl, rfl⟩ := hrel
    by_cases hlt : j < k
    · have hn : okM (i * tp ((j + 1 : Nat) : Int)) = true := HM.out (j + 1) k (by omega) H.out
      rw [tp_succ, ← Int.mul_assoc] at hn
      have hb : -922337203685477580 ≤ i * tp (j : Int) ∧ i * tp (j : Int) ≤ 922337203685477580 := by unfold okM at hn; simp only [decide_eq_true_eq] at hn; omega
      have hs : i * tp ((j + 1 : Nat) : Int) = i * tp (j : Int) * 10 := by rw [tp_succ, ← Int.mul_assoc]
      have HS := Lib.hid hs
      clear hs hn
      obtain ⟨b1, b2⟩ := hb
      go_wp2
      go_round
      case rel => exact ⟨j + 1, by omega, by go_num, by rw [HS.out]⟩
      case measure => simp [intOf]; omega
    · obtain rfl : j = k := by omega
      go_wp2
      go_ret2
      exact ⟨rfl, rfl⟩

/-- 'scaled' where it does not fit. -/
theorem sc_no (i : Int) (k : Nat) (hk : k ≤ 18) (hi : okM (i * tp ((0 : Nat) : Int)) = true) (h : okM (i * tp (k : Int)) = false) (w : World) :
    Calls Tryd.prog 7 #[.int .i64 i, .int .i64 (k : Int)] w fun e w' => e = .returned (.tuple #[.int .i64 0, .bool false]) ∧ w = w' := by
  have H := Lib.hid h
  have HI := Lib.hid hi
  clear h hi
  go_enter Tryd.func7, Tryd.ntmps7
  go_wp2_with fail
  go_loop [0, 6] (fun n c => ∃ j : Nat, j ≤ k ∧ okM (i * tp (j : Int)) = true ∧ c = .int .i64 (j : Int) ∧ n = .int .i64 (i * tp (j : Int))) (fun _ c => k - (intOf c).toNat)
  case atStart => exact ⟨0, by omega, HI.out, rfl, by rw [tp_nat]; simp⟩
  case round =>
    obtain ⟨j, hj, hok, rfl, rfl⟩ := hrel
    have hlt : j < k := by
      rcases Nat.lt_or_ge j k with h | h
      · exact h
      · obtain rfl : j = k := by omega
        rw [H.out] at hok; cases hok
    have hs : i * tp ((j + 1 : Nat) : Int) = i * tp (j : Int) * 10 := by rw [tp_succ, ← Int.mul_assoc]
    have HS := Lib.hid hs
    clear hs hok
    rcases Int.lt_or_le 922337203685477580 (i * tp (j : Int)) with b1 | b1
    · go_wp2
      go_ret2
      exact ⟨rfl, rfl⟩
    · rcases Int.lt_or_le (i * tp (j : Int)) (-922337203685477580) with b2 | b2
      · go_wp2
        go_ret2
        exact ⟨rfl, rfl⟩
      · have HK : Hid (okM (i * tp (j : Int) * 10) = true) := by unfold Hid okM; simp only [decide_eq_true_eq]; omega
        go_wp2
        go_round
        case rel => exact ⟨j + 1, by omega, by rw [HS.out]; exact HK.out, by go_num, by rw [HS.out]⟩
        case measure => simp [intOf]; omega

theorem sc_7 (i : Int) (k : Nat) (hk : k ≤ 18) (hi : (Lit.int .i64 i).wf = true) (w : World) :
    Calls Tryd.prog 7 #[.int .i64 i, .int .i64 (k : Int)] w fun e w' => e = .returned (.tuple #[.int .i64 (valM (i * tp (k : Int))), .bool (okM (i * tp (k : Int)))]) ∧ w = w' := by
  have h0 : okM (i * tp ((0 : Nat) : Int)) = true := by
    have := bounds_i64 hi
    rw [tp_nat, Int.pow_zero, Int.mul_one]; unfold okM; simp only [decide_eq_true_eq]; exact this
  by_cases h : okM (i * tp (k : Int)) = true
  · rw [valM, h]; exact sc_ok i k hk h w
  · have h' : okM (i * tp (k : Int)) = false := by simpa using h
    rw [valM, h']; exact sc_no i k hk h0 h' w

theorem wrap64_bounds (n : Int) : -9223372036854775808 ≤ wrap64 n ∧ wrap64 n ≤ 9223372036854775807 := by unfold wrap64; omega
/-- 'Mul(m, 10)'. -/
theorem mul_13 (m : Int) (hm : (Lit.int .i64 m).wf = true) (h0 : (m == 0) = false) (w : World) :
    Calls Tryd.prog 13 #[.int .i64 m, .int .i64 10] w fun e w' => e = .returned (.tuple #[.int .i64 (valM (m * 10)), .bool (okM (m * 10))]) ∧ w = w' := by
  have hb := bounds_i64 hm
  clear hm
  by_cases h : okM (m * 10) = true
  · rw [valM, h]
    have hb' : -9223372036854775808 ≤ m * 10 ∧ m * 10 ≤ 9223372036854775807 := by unfold okM at h; simpa only [decide_eq_true_eq] using h
    have e1 : (wrap64 ((m * 10).tdiv 10) != m) = false := by
      rw [Int.mul_tdiv_cancel m (by omega), IntWalk.wrap64_in _ hb]; simp
    have e2 : wrap64 ((m * 10).tdiv 10) = m := by rw [Int.mul_tdiv_cancel m (by omega), IntWalk.wrap64_in _ hb]
    clear hb h
    obtain ⟨b1, b2⟩ := hb'
    have HE := Lib.hid e2
    clear e2
    go_enter Tryd.func13, Tryd.ntmps13
    go_wp2
    all_goals (go_ret2; exact ⟨rfl, rfl⟩)
  · have h' : okM (m * 10) = false := by simpa using h
    rw [valM, h']
    have hb' : m * 10 < -9223372036854775808 ∨ 9223372036854775807 < m * 10 := by
      unfold okM at h'; simp only [decide_eq_false_iff_not] at h'; omega
    have e1 : (wrap64 ((wrap64 (m * 10)).tdiv 10) != m) = true := by
      have hw := wrap64_bounds (m * 10)
      have hd := Int.mul_tdiv_add_tmod (wrap64 (m * 10)) 10
      have hr1 : -10 < (wrap64 (m * 10)).tmod 10 := Int.lt_tmod_of_pos _ (by omega)
      have hr2 : (wrap64 (m * 10)).tmod 10 < 10 := Int.tmod_lt_of_pos _ (by omega)
      rw [IntWalk.wrap64_in ((wrap64 (m * 10)).tdiv 10) (by omega)]
      rw [bne_iff_ne]
      intro e
      rw [e] at hd
      have hk : ∃ q : Int, wrap64 (m * 10) = m * 10 - 18446744073709551616 * q := ⟨(m * 10 + 9223372036854775808) / 18446744073709551616, by unfold wrap64; omega⟩
      obtain ⟨q, hq⟩ := hk
      omega
    have e2 : ¬ m = -1 := by intro e; subst e; omega
    clear hb h h' hb'
    go_enter Tryd.func13, Tryd.ntmps13
    go_wp2
    go_ret2
    exact ⟨rfl, rfl⟩

theorem spec_8 (i : Int) (n : Nat) (hn : n ≤ 18) (hi : (Lit.int .i64 i).wf = true) (w : World) :
    Calls Tryd.prog 8 #[.int .i64 i, .int .i64 (-4 + (n : Int))] w fun e w' => e = .returned (.tuple #[.int .i64 (valM (i * tp (n : Int))), .bool (okM (i * tp (n : Int)))]) ∧ w = w' := by
  have h0 : okM (i * tp ((0 : Nat) : Int)) = true := by
    have := bounds_i64 hi
    rw [tp_nat, Int.pow_zero, Int.mul_one]; unfold okM; simp only [decide_eq_true_eq]; exact this
  have HI := Lib.hid h0
  have HM := Lib.hid (mono_in i)
  clear h0 hi
  generalize hv : valM (i * tp (n : Int)) = V
  generalize ho : okM (i * tp (n : Int)) = B
  have HV := Lib.hid hv
  have HO := Lib.hid ho
  clear hv ho
  go_enter Tryd.func8, Tryd.ntmps8
  go_wp2_with fail
  refine wp_loop_once ?_
  go_wp2_with fail
  go_loop [6, 8] (fun m c => ∃ j : Nat, j ≤ n ∧ okM (i * tp (j : Int)) = true ∧ c = .int .i64 (-4 + (j : Int)) ∧ m = .int .i64 (i * tp (j : Int))) (fun _ c => n - (intOf c + 4).toNat)
  case atStart => exact ⟨0, by omega, HI.out, rfl, by rw [tp_nat]; simp⟩
  case round =>
    obtain ⟨j, hj, hok, rfl, rfl⟩ := hrel
    by_cases hlt : j < n
    · by_cases hz : i * tp (j : Int) = 0
      · have hz' : (i * tp (j : Int) == 0) = true := by rw [beq_iff_eq]; exact hz
        have e : V = 0 ∧ B = true := by
          have : i = 0 := by
            rcases Int.mul_eq_zero.1 hz with h | h
            · exact h
            · have := tp_pos (j : Int); omega
          subst this
          have hv := HV.out; have ho := HO.out
          rw [Int.zero_mul] at hv ho
          exact ⟨hv.symm, ho.symm⟩
        have HE := Lib.hid e
        clear e hz hok
        go_wp2
        go_ret2
        exact ⟨by rw [HE.out.1, HE.out.2]; rfl, rfl⟩
      · have hz' : (i * tp (j : Int) == 0) = false := by rw [beq_eq_false_iff_ne]; exact hz
        have hs : i * tp ((j + 1 : Nat) : Int) = i * tp (j : Int) * 10 := by rw [tp_succ, ← Int.mul_assoc]
        have HS := Lib.hid hs
        clear hs
        have HW : Hid ((Lit.int .i64 (i * tp (j : Int))).wf = true) := by unfold okM at hok; simp only [decide_eq_true_eq] at hok; exact WalkArith.wf_i64 hok
        have HZ := Lib.hid hz'
        clear hok hz hz'
        by_cases h1 : okM (i * tp (j : Int) * 10) = true
        · have q1 : valM (i * tp (j : Int) * 10) = i * tp (j : Int) * 10 := by rw [valM, h1]; rfl
          have hz' := HZ.out
          go_wp2_with (go_at_call 13; refine (mul_13 _ HW.out HZ.out _).mono ?_; rintro e w' ⟨rfl, rfl⟩)
          go_round
          case rel => exact ⟨j + 1, by omega, by rw [HS.out]; exact h1, by go_num, by rw [HS.out]⟩
          case measure => simp [intOf]; omega
        · have h1' : okM (i * tp (j : Int) * 10) = false := by simpa using h1
          have q1 : valM (i * tp (j : Int) * 10) = 0 := by rw [valM, h1']; rfl
          have e : V = 0 ∧ B = false := by
            have hb : B = false := by
              rcases hB : B with _ | _
              · rfl
              · exfalso
                have := HM.out (j + 1) n (by omega) (HO.out.trans hB)
                rw [HS.out, h1'] at this; cases this
            refine ⟨?_, hb⟩
            have hv := HV.out
            rw [← hv, valM, HO.out, hb]; rfl
          have HE := Lib.hid e
          have hz' := HZ.out
          clear e h1
          go_wp2_with (go_at_call 13; refine (mul_13 _ HW.out HZ.out _).mono ?_; rintro e w' ⟨rfl, rfl⟩)
          go_ret2
          exact ⟨by rw [HE.out.1, HE.out.2]; rfl, rfl⟩
    · obtain rfl : j = n := by omega
      have e : V = i * tp (j : Int) ∧ B = true := by
        have hv := HV.out; have ho := HO.out
        rw [hok] at ho
        rw [valM, hok] at hv
        exact ⟨hv.symm, ho.symm⟩
      have HE := Lib.hid e
      clear e hok
      go_wp2
      go_ret2
      exact ⟨by rw [HE.out.1, HE.out.2]; rfl, rfl⟩
end Go.Proofs.YtnoiijficdoglaaDoor
