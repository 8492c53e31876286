/-
  What newDecimal returns for a whole part and a fraction below ten thousand: the decimal, or the error where it leaves 64 bits. Lemmas for this seat's laws.
-/
import Derived.Test.YtnoiijficdoglaaDoorRows
import Derived.WalkKit
import Derived.ProofKit
import Derived.OpenShut
import Derived.Carry
import Derived.Lib.Hide
import Derived.Deep.QuietTactic
import Derived.BigQuiet
import Derived.WalkLawsBesides
import Derived.Outline
import Derived.RegionTactic
namespace Go.Proofs.YtnoiijficdoglaaDoor
open Go.ChangeShapes Go.WideShapes Go.ChangeAt Go.RowKit
set_option linter.unusedVariables false

/-- The error's cell, kept over new blocks. -/
def Err (w : World) (t : TypeId) (u : Value) : Prop := w.cell? ⟨0, 0, none⟩ = some (.iface t u) ∧ 0 < w.heap.size
theorem Err.alloc {w : World} {t : TypeId} {u : Value} (h : Err w t u) (o : Obj) : (w.alloc o).cell? ⟨0, 0, none⟩ = some (.iface t u) :=
  (World.cell?_alloc_lt w o ⟨0, 0, none⟩ h.2).trans h.1
theorem Err.below {w w' : World} {t : TypeId} {u : Value} (h : Err w t u) {B : Nat} (hB : 0 < B) (hb : Below B w w') : Err w' t u :=
  ⟨(hb.cell (p := ⟨0, 0, none⟩) hB).trans h.1, Nat.lt_of_lt_of_le h.2 hb.size⟩

theorem nd_err1 (a f : Int) (w : World) (t : TypeId) (u : Value) (he : Err w t u)
    (h : (922337203685477 < a) ∨ ((a == 922337203685477) = true ∧ 5807 < f)) :
    Calls Tryd.prog 15 #[.int .i64 a, .int .i16 f] w fun e w' => e = .returned (.tuple #[.agg #[.int .i64 0], .iface t u]) ∧ Below w.heap.size w w' := by
  have he' := he.alloc
  clear he
  rcases h with h | ⟨h1, h2⟩
  · go_enter Tryd.func15, Tryd.ntmps15
    go_wp2_with fail
    go_region
    go_wp2_with fail
    exact bodyPost_ret (v := .tuple #[.agg #[.int .i64 0], .iface t u]) (by simp [results, Tryd.results15, go_sem]) rfl ⟨rfl, ((Below.refl _ _).alloc (Nat.le_refl _) _).drew⟩
  · have h3 : a ≤ 922337203685477 := by have := (beq_iff_eq.1 h1); omega
    go_enter Tryd.func15, Tryd.ntmps15
    go_wp2_with fail
    go_region
    go_wp2_with fail
    exact bodyPost_ret (v := .tuple #[.agg #[.int .i64 0], .iface t u]) (by simp [results, Tryd.results15, go_sem]) rfl ⟨rfl, ((Below.refl _ _).alloc (Nat.le_refl _) _).drew⟩
theorem nd_err2 (a f : Int) (w : World) (t : TypeId) (u : Value) (he : Err w t u)
    (h : (a < -922337203685477) ∨ ((a == -922337203685477) = true ∧ f < -5808 ∧ (a == 922337203685477) = false)) :
    Calls Tryd.prog 15 #[.int .i64 a, .int .i16 f] w fun e w' => e = .returned (.tuple #[.agg #[.int .i64 0], .iface t u]) ∧ Below w.heap.size w w' := by
  have he' := he.alloc
  clear he
  rcases h with h | ⟨h1, h2, h3⟩
  · have h3 : (a == 922337203685477) = false := by simp; omega
    go_enter Tryd.func15, Tryd.ntmps15
    go_wp2_with fail
    go_region
    go_wp2_with fail
    exact bodyPost_ret (v := .tuple #[.agg #[.int .i64 0], .iface t u]) (by simp [results, Tryd.results15, go_sem]) rfl ⟨rfl, ((Below.refl _ _).alloc (Nat.le_refl _) _).drew⟩
  · have h4 : a < 0 := by have := (beq_iff_eq.1 h1); omega
    have h5 : -922337203685477 ≤ a := by have := (beq_iff_eq.1 h1); omega
    go_enter Tryd.func15, Tryd.ntmps15
    go_wp2_with fail
    go_region
    go_wp2_with fail
    exact bodyPost_ret (v := .tuple #[.agg #[.int .i64 0], .iface t u]) (by simp [results, Tryd.results15, go_sem]) rfl ⟨rfl, ((Below.refl _ _).alloc (Nat.le_refl _) _).drew⟩
theorem nd_ok (a f : Int) (w : World) (hf : -10000 < f ∧ f < 10000) (h1 : a ≤ 922337203685477) (h2 : -922337203685477 ≤ a)
    (h : ((a == 922337203685477) = false ∧ (a == -922337203685477) = false) ∨ ((a == 922337203685477) = true ∧ (a == -922337203685477) = false ∧ f ≤ 5807) ∨ ((a == -922337203685477) = true ∧ (a == 922337203685477) = false ∧ -5808 ≤ f)) :
    Calls Tryd.prog 15 #[.int .i64 a, .int .i16 f] w fun e w' => e = .returned (.tuple #[.agg #[.int .i64 (wrap64 (a * 10000 + f))], .nilIface]) ∧ Below w.heap.size w w' := by
  rcases h with ⟨h3, h4⟩ | ⟨h3, h4, h5⟩ | ⟨h3, h4, h5⟩
  all_goals
    go_enter Tryd.func15, Tryd.ntmps15
    go_wp2_with fail
    exact bodyPost_ret (v := .tuple #[.agg #[.int .i64 (wrap64 (a * 10000 + f))], .nilIface]) (by simp [results, Tryd.results15, go_sem]) rfl ⟨rfl, (Below.refl _ _).alloc (Nat.le_refl _) _⟩

def dOk (a f : Int) : Bool := decide (-9223372036854775808 ≤ a * 10000 + f ∧ a * 10000 + f ≤ 9223372036854775807)
def dVal (a f : Int) : Int := if dOk a f then a * 10000 + f else 0
def dErr (b : Bool) (t : TypeId) (u : Value) : Value := if b then .nilIface else .iface t u

theorem nd_any (a f : Int) (w : World) (hf : -10000 < f ∧ f < 10000) (hs : (0 ≤ a ∧ 0 ≤ f) ∨ (a ≤ 0 ∧ f ≤ 0)) (t : TypeId) (u : Value) (he : Err w t u) :
    Calls Tryd.prog 15 #[.int .i64 a, .int .i16 f] w fun e w' => e = .returned (.tuple #[.agg #[.int .i64 (dVal a f)], dErr (dOk a f) t u]) ∧ Below w.heap.size w w' := by
  by_cases k1 : (922337203685477 < a) ∨ ((a == 922337203685477) = true ∧ 5807 < f)
  · have e : dOk a f = false := by unfold dOk; simp only [decide_eq_false_iff_not]; rw [beq_iff_eq] at k1; omega
    rw [dVal, e, dErr]; exact nd_err1 a f w t u he k1
  by_cases k2 : (a < -922337203685477) ∨ ((a == -922337203685477) = true ∧ f < -5808 ∧ (a == 922337203685477) = false)
  · have e : dOk a f = false := by unfold dOk; simp only [decide_eq_false_iff_not]; rw [beq_iff_eq] at k2; omega
    rw [dVal, e, dErr]; exact nd_err2 a f w t u he k2
  · have h3 : dOk a f = true := by
      unfold dOk; simp only [decide_eq_true_eq]
      simp only [beq_iff_eq, beq_eq_false_iff_ne] at k1 k2
      omega
    have hw : wrap64 (a * 10000 + f) = dVal a f := by
      rw [dVal, h3]; simp only [dOk, decide_eq_true_eq] at h3; exact IntWalk.wrap64_in _ h3
    rw [h3, dErr]
    have := nd_ok a f w hf (by simp only [beq_iff_eq, beq_eq_false_iff_ne] at k1 k2; omega) (by simp only [beq_iff_eq, beq_eq_false_iff_ne] at k1 k2; omega) (by simp only [beq_iff_eq, beq_eq_false_iff_ne] at k1 k2 ⊢; omega)
    rw [hw] at this
    exact this
end Go.Proofs.YtnoiijficdoglaaDoor
