/-
  A number divided by a power of ten, its quotient and its rest as ten-thousandths: plain arithmetic. Lemmas for this seat's laws.
-/
import Derived.Test.YtnoiijficdoglaaDoorPow
namespace Go.Proofs.YtnoiijficdoglaaDoor
open Go.RowKit
set_option linter.unusedVariables false

def okM (m : Int) : Bool := decide (-9223372036854775808 ≤ m ∧ m ≤ 9223372036854775807)
def valM (m : Int) : Int := if okM m then m else 0
theorem dOk_m (a f : Int) : dOk a f = okM (a * 10000 + f) := rfl
theorem dVal_m (a f : Int) : dVal a f = valM (a * 10000 + f) := rfl

theorem tp_pos (n : Int) : 1 ≤ tp n := by have : 0 < tp n := Int.pow_pos (by omega); omega
theorem tp_mul (e : Int) (h0 : -4 ≤ e) (h1 : e ≤ 0) : tp (-e) * tp (4 + e) = 10000 := by
  obtain rfl | rfl | rfl | rfl | rfl : e = -4 ∨ e = -3 ∨ e = -2 ∨ e = -1 ∨ e = 0 := by omega
  all_goals rfl

theorem split_m (i p q : Int) (hp : 1 ≤ p) (hq : 1 ≤ q) (hpq : p * q = 10000) (hi : -9223372036854775808 ≤ i ∧ i ≤ 9223372036854775807) :
    wrap64 (i.tdiv p) = i.tdiv p ∧ IntKind.i16.wrap (wrap64 (i.tmod p * q)) = i.tmod p * q ∧ (-10000 < i.tmod p * q ∧ i.tmod p * q < 10000) ∧
    ((0 ≤ i.tdiv p ∧ 0 ≤ i.tmod p * q) ∨ (i.tdiv p ≤ 0 ∧ i.tmod p * q ≤ 0)) ∧ i.tdiv p * 10000 + i.tmod p * q = i * q := by
  have hd := Int.mul_tdiv_add_tmod i p
  have hq10 : q ≤ 10000 := by
    have : 1 * q ≤ p * q := Int.mul_le_mul_of_nonneg_right hp (by omega)
    omega
  have hsum : i.tdiv p * 10000 + i.tmod p * q = i * q := by
    have h2 : (p * i.tdiv p + i.tmod p) * q = i * q := by rw [hd]
    rw [Int.add_mul, Int.mul_right_comm, hpq, Int.mul_comm 10000] at h2
    exact h2
  have hb : -p < i.tmod p ∧ i.tmod p < p := ⟨Int.lt_tmod_of_pos i (by omega), Int.tmod_lt_of_pos i (by omega)⟩
  have hf : -10000 < i.tmod p * q ∧ i.tmod p * q < 10000 := by
    have h1 : i.tmod p * q ≤ (p - 1) * q := Int.mul_le_mul_of_nonneg_right (by omega) (by omega)
    have h2 : (-(p - 1)) * q ≤ i.tmod p * q := Int.mul_le_mul_of_nonneg_right (by omega) (by omega)
    rw [Int.neg_mul, Int.sub_mul, hpq, Int.one_mul] at h2
    rw [Int.sub_mul, hpq, Int.one_mul] at h1
    omega
  have hs : (0 ≤ i.tdiv p ∧ 0 ≤ i.tmod p) ∨ (i.tdiv p ≤ 0 ∧ i.tmod p ≤ 0) := by
    rcases Int.le_total 0 i with h | h
    · exact .inl ⟨Int.tdiv_nonneg h (by omega), Int.tmod_nonneg p h⟩
    · refine .inr ⟨?_, ?_⟩
      · have := Int.tdiv_nonneg (a := -i) (b := p) (by omega) (by omega)
        rw [Int.neg_tdiv] at this; omega
      · have := Int.tmod_nonneg (a := -i) p (by omega)
        rw [Int.neg_tmod] at this; omega
  have ha : -9223372036854775808 ≤ i.tdiv p ∧ i.tdiv p ≤ 9223372036854775807 := by
    have hh : i.tdiv p ≤ p * i.tdiv p ∨ i.tdiv p ≤ 0 := by
      rcases Int.le_total 0 (i.tdiv p) with h | h
      · left
        have : 1 * i.tdiv p ≤ p * i.tdiv p := Int.mul_le_mul_of_nonneg_right hp h
        omega
      · exact .inr h
    have hh2 : p * i.tdiv p ≤ i.tdiv p ∨ 0 ≤ i.tdiv p := by
      rcases Int.le_total 0 (i.tdiv p) with h | h
      · exact .inr h
      · left
        have : 1 * -(i.tdiv p) ≤ p * -(i.tdiv p) := Int.mul_le_mul_of_nonneg_right hp (by omega)
        simp only [Int.mul_neg] at this; omega
    omega
  refine ⟨IntWalk.wrap64_in _ ha, ?_, hf, ?_, hsum⟩
  · rw [IntWalk.wrap64_in _ (by omega)]; exact IntWalk.i16_in _ (by omega)
  · rcases hs with ⟨h1, h2⟩ | ⟨h1, h2⟩
    · exact .inl ⟨h1, Int.mul_nonneg h2 (by omega)⟩
    · exact .inr ⟨h1, Int.mul_nonpos_of_nonpos_of_nonneg h2 (by omega)⟩
end Go.Proofs.YtnoiijficdoglaaDoor
