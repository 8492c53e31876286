/-
  What impl.value, compared, Less, LessEq and Equal return for longs, datetimes and durations. Lemmas for this seat's law.
-/
import Derived.Test.YtliinhadngopgaaGreatRows
import Derived.WalkKit
import Derived.ProofKit
import Derived.OpenShut
import Derived.Carry
import Derived.Deep.RegionHeld3
import Derived.Lib.Hide
import Derived.Maps.AppendAt
namespace Go.Proofs.YtliinhadngopgaaGreat
open Go.ChangeShapes Go.WideShapes Go.ChangeAt Go.RowKit
set_option linter.unusedVariables false

@[go_sem] theorem ta66 (v : Value) (w : World) : (Instr.typeAssert (.iface 66 v) 51 66 true).run Tryz.prog w = .ok (.tuple #[v, .bool true]) w := by kernel_rfl
@[go_sem] theorem ta83 (v : Value) (w : World) : (Instr.typeAssert (.iface 83 v) 51 83 true).run Tryz.prog w = .ok (.tuple #[v, .bool true]) w := by kernel_rfl
@[go_sem] theorem ta85 (v : Value) (w : World) : (Instr.typeAssert (.iface 85 v) 51 85 true).run Tryz.prog w = .ok (.tuple #[v, .bool true]) w := by kernel_rfl
@[go_sem] theorem tc66 (v : Value) (w : World) : (Instr.typeAssert (.iface 66 v) 51 49 true).run Tryz.prog w = .ok (.tuple #[.iface 66 v, .bool true]) w := by kernel_rfl
@[go_sem] theorem tc83 (v : Value) (w : World) : (Instr.typeAssert (.iface 83 v) 51 49 true).run Tryz.prog w = .ok (.tuple #[.iface 83 v, .bool true]) w := by kernel_rfl
@[go_sem] theorem tc85 (v : Value) (w : World) : (Instr.typeAssert (.iface 85 v) 51 49 true).run Tryz.prog w = .ok (.tuple #[.iface 85 v, .bool true]) w := by kernel_rfl
theorem cell_new (w : World) (v : Value) (t : TypeId) : (w.alloc (.cells #[v] t)).cell? ⟨w.heap.size, 0, none⟩ = some v := cell_one_new w v t 0 v rfl

@[go_sem ↓] theorem cm_92 (v : Value) (w : World) : (method 269 66 v "Equal").run Tryz.prog w = .ok (92, v) w := by kernel_rfl
@[go_sem ↓] theorem cm_93 (v : Value) (w : World) : (method 269 66 v "LessThan").run Tryz.prog w = .ok (93, v) w := by kernel_rfl
@[go_sem ↓] theorem cm_94 (v : Value) (w : World) : (method 269 66 v "LessThanOrEqual").run Tryz.prog w = .ok (94, v) w := by kernel_rfl
@[go_sem ↓] theorem cm_114 (v : Value) (w : World) : (method 269 83 v "Equal").run Tryz.prog w = .ok (114, v) w := by kernel_rfl
@[go_sem ↓] theorem cm_115 (v : Value) (w : World) : (method 269 83 v "LessThan").run Tryz.prog w = .ok (115, v) w := by kernel_rfl
@[go_sem ↓] theorem cm_116 (v : Value) (w : World) : (method 269 83 v "LessThanOrEqual").run Tryz.prog w = .ok (116, v) w := by kernel_rfl
@[go_sem ↓] theorem cm_121 (v : Value) (w : World) : (method 269 85 v "Equal").run Tryz.prog w = .ok (121, v) w := by kernel_rfl
@[go_sem ↓] theorem cm_122 (v : Value) (w : World) : (method 269 85 v "LessThan").run Tryz.prog w = .ok (122, v) w := by kernel_rfl
@[go_sem ↓] theorem cm_123 (v : Value) (w : World) : (method 269 85 v "LessThanOrEqual").run Tryz.prog w = .ok (123, v) w := by kernel_rfl

theorem cell_at (w : World) (cs : Array Value) (t : TypeId) (j : Nat) (v : Value) (h : cs[j]? = some v) : (w.alloc (.cells cs t)).cell? ⟨w.heap.size, j, none⟩ = some v := by
  have e : (w.alloc (.cells cs t)).heap[w.heap.size]? = some (.cells cs t (0, 0)) := by simp [World.alloc, -World.alloc_eq]
  simp only [World.cell?, e]
  exact h
def vcells (K b : Int) : Obj := .cells #[.int .i64 K, .int .i64 b, .string ⟨#[]⟩, .string ⟨#[]⟩, .slice none 0 0, .slice none 0 0] 25
theorem six_at {w w1 : World} {o : Obj} {K b : Int} (hb : Below ((w.alloc o).alloc (vcells K b)).heap.size ((w.alloc o).alloc (vcells K b)) w1) (j : Nat) (v : Value) (h : (#[.int .i64 K, .int .i64 b, .string ⟨#[]⟩, .string ⟨#[]⟩, .slice none 0 0, .slice none 0 0] : Array Value)[j]? = some v) : w1.cell? ⟨w.heap.size + 1, j, none⟩ = some v := by
  rw [hb.cell (by simp)]
  have e : (w.alloc o).heap.size = w.heap.size + 1 := by simp
  rw [← e]
  exact cell_at (w.alloc o) _ 25 j v h
def VX (K n : Int) : Value := .agg #[.int .i64 K, .int .i64 n, .string ⟨#[]⟩, .string ⟨#[]⟩, .slice none 0 0, .slice none 0 0]

theorem lt_93 (a b : Int) (w : World) : Calls Tryz.prog 93 #[.int .i64 a, .iface 66 (.int .i64 b)] w fun e w' => e = .returned (.tuple #[.bool (decide (a < b)), .nilIface]) ∧ w' = w := by
  go_enter Tryz.func93, Tryz.ntmps93
  go_wp2_with fail
  exact bodyPost_ret (v := .tuple #[.bool (decide (a < b)), .nilIface]) (by simp [results, Tryz.results93, go_sem]) rfl ⟨rfl, rfl⟩
theorem le_94 (a b : Int) (w : World) : Calls Tryz.prog 94 #[.int .i64 a, .iface 66 (.int .i64 b)] w fun e w' => e = .returned (.tuple #[.bool (decide (a ≤ b)), .nilIface]) ∧ w' = w := by
  go_enter Tryz.func94, Tryz.ntmps94
  go_wp2_with fail
  exact bodyPost_ret (v := .tuple #[.bool (decide (a ≤ b)), .nilIface]) (by simp [results, Tryz.results94, go_sem]) rfl ⟨rfl, rfl⟩
theorem eq_92 (a b : Int) (w : World) : Calls Tryz.prog 92 #[.int .i64 a, .iface 66 (.int .i64 b)] w fun e w' => e = .returned (.bool (a == b)) ∧ w' = w := by
  go_enter Tryz.func92, Tryz.ntmps92
  go_wp2_with fail
  go_ret
  exact ⟨rfl, rfl⟩
theorem lt_93b (a b : Int) (w : World) : Calls Tryz.prog 93 #[.int .i64 a, .iface 66 (.int .i64 b)] w fun e w' => e = .returned (.tuple #[.bool (decide (a < b)), .nilIface]) ∧ Below w.heap.size w w' :=
  (lt_93 a b w).mono fun e w' h => ⟨h.1, by rw [h.2]; exact Below.refl _ _⟩
theorem le_94b (a b : Int) (w : World) : Calls Tryz.prog 94 #[.int .i64 a, .iface 66 (.int .i64 b)] w fun e w' => e = .returned (.tuple #[.bool (decide (a ≤ b)), .nilIface]) ∧ Below w.heap.size w w' :=
  (le_94 a b w).mono fun e w' h => ⟨h.1, by rw [h.2]; exact Below.refl _ _⟩
theorem eq_92b (a b : Int) (w : World) : Calls Tryz.prog 92 #[.int .i64 a, .iface 66 (.int .i64 b)] w fun e w' => e = .returned (.bool (a == b)) ∧ Below w.heap.size w w' :=
  (eq_92 a b w).mono fun e w' h => ⟨h.1, by rw [h.2]; exact Below.refl _ _⟩
theorem m_115 (a b : Int) (w : World) : Calls Tryz.prog 115 #[.agg #[.int .i64 a], .iface 83 (.agg #[.int .i64 b])] w fun e w' => e = .returned (.tuple #[.bool (decide (a < b)), .nilIface]) ∧ Below w.heap.size w w' := by
  go_enter Tryz.func115, Tryz.ntmps115
  go_wp2_with fail
  exact bodyPost_ret (v := .tuple #[.bool (decide (a < b)), .nilIface]) (by simp [results, Tryz.results115, go_sem]) rfl ⟨rfl, ((Below.refl _ _).alloc (Nat.le_refl _) _).alloc (by simp) _⟩
theorem m_116 (a b : Int) (w : World) : Calls Tryz.prog 116 #[.agg #[.int .i64 a], .iface 83 (.agg #[.int .i64 b])] w fun e w' => e = .returned (.tuple #[.bool (decide (a ≤ b)), .nilIface]) ∧ Below w.heap.size w w' := by
  go_enter Tryz.func116, Tryz.ntmps116
  go_wp2_with fail
  exact bodyPost_ret (v := .tuple #[.bool (decide (a ≤ b)), .nilIface]) (by simp [results, Tryz.results116, go_sem]) rfl ⟨rfl, ((Below.refl _ _).alloc (Nat.le_refl _) _).alloc (by simp) _⟩
theorem m_114 (a b : Int) (w : World) : Calls Tryz.prog 114 #[.agg #[.int .i64 a], .iface 83 (.agg #[.int .i64 b])] w fun e w' => e = .returned (.bool (a == b)) ∧ Below w.heap.size w w' := by
  by_cases h : a = b
  · subst h
    go_enter Tryz.func114, Tryz.ntmps114
    go_wp2_with fail
    go_ret
    exact ⟨by simp, ((Below.refl _ _).alloc (Nat.le_refl _) _).alloc (by simp) _⟩
  · have hb0 : (a == b) = false := by simpa using h
    go_enter Tryz.func114, Tryz.ntmps114
    go_wp2_with fail
    go_ret
    exact ⟨by simp [h], ((Below.refl _ _).alloc (Nat.le_refl _) _).alloc (by simp) _⟩
theorem m_122 (a b : Int) (w : World) : Calls Tryz.prog 122 #[.agg #[.int .i64 a], .iface 85 (.agg #[.int .i64 b])] w fun e w' => e = .returned (.tuple #[.bool (decide (a < b)), .nilIface]) ∧ Below w.heap.size w w' := by
  go_enter Tryz.func122, Tryz.ntmps122
  go_wp2_with fail
  exact bodyPost_ret (v := .tuple #[.bool (decide (a < b)), .nilIface]) (by simp [results, Tryz.results122, go_sem]) rfl ⟨rfl, ((Below.refl _ _).alloc (Nat.le_refl _) _).alloc (by simp) _⟩
theorem m_123 (a b : Int) (w : World) : Calls Tryz.prog 123 #[.agg #[.int .i64 a], .iface 85 (.agg #[.int .i64 b])] w fun e w' => e = .returned (.tuple #[.bool (decide (a ≤ b)), .nilIface]) ∧ Below w.heap.size w w' := by
  go_enter Tryz.func123, Tryz.ntmps123
  go_wp2_with fail
  exact bodyPost_ret (v := .tuple #[.bool (decide (a ≤ b)), .nilIface]) (by simp [results, Tryz.results123, go_sem]) rfl ⟨rfl, ((Below.refl _ _).alloc (Nat.le_refl _) _).alloc (by simp) _⟩
theorem m_121 (a b : Int) (w : World) : Calls Tryz.prog 121 #[.agg #[.int .i64 a], .iface 85 (.agg #[.int .i64 b])] w fun e w' => e = .returned (.bool (a == b)) ∧ Below w.heap.size w w' := by
  by_cases h : a = b
  · subst h
    go_enter Tryz.func121, Tryz.ntmps121
    go_wp2_with fail
    go_ret
    exact ⟨by simp, ((Below.refl _ _).alloc (Nat.le_refl _) _).alloc (by simp) _⟩
  · have hb0 : (a == b) = false := by simpa using h
    go_enter Tryz.func121, Tryz.ntmps121
    go_wp2_with fail
    go_ret
    exact ⟨by simp [h], ((Below.refl _ _).alloc (Nat.le_refl _) _).alloc (by simp) _⟩
theorem new_30 (n : Int) (w : World) : Calls Tryz.prog 30 #[.int .i64 n] w fun e w' => e = .returned (.agg #[.int .i64 n]) ∧ Below w.heap.size w w' := by
  go_enter Tryz.func30, Tryz.ntmps30
  go_wp2_with fail
  exact bodyPost_ret (v := .agg #[.int .i64 n]) (by simp [results, Tryz.results30, go_sem]) rfl ⟨rfl, (Below.refl _ _).alloc (Nat.le_refl _) _⟩
theorem new_31 (n : Int) (w : World) : Calls Tryz.prog 31 #[.int .i64 n] w fun e w' => e = .returned (.agg #[.int .i64 n]) ∧ Below w.heap.size w w' := by
  go_enter Tryz.func31, Tryz.ntmps31
  go_wp2_with fail
  exact bodyPost_ret (v := .agg #[.int .i64 n]) (by simp [results, Tryz.results31, go_sem]) rfl ⟨rfl, (Below.refl _ _).alloc (Nat.le_refl _) _⟩
theorem vx_2 (n : Int) (w : World) : Calls Tryz.prog 21 #[VX 2 n] w fun e w' => e = .returned (.tuple #[.iface 66 (.int .i64 n), .bool true]) ∧ Below w.heap.size w w' := by
  unfold VX
  go_enter Tryz.func21, Tryz.ntmps21
  go_wp2_with fail
  exact bodyPost_ret (v := .tuple #[.iface 66 (.int .i64 n), .bool true]) (by simp [results, Tryz.results21, go_sem]) rfl ⟨rfl, (Below.refl _ _).alloc (Nat.le_refl _) _⟩
theorem cmp_2 (a b : Int) (w : World) : Calls Tryz.prog 20 #[VX 2 a, VX 2 b] w fun e w' => e = .returned (.tuple #[.iface 66 (.int .i64 a), .iface 66 (.int .i64 b), .int .i64 0]) ∧ Below w.heap.size w w' := by
  have H := Lib.hid (vx_2)
  unfold VX at *
  have hW : ∀ o, Below w.heap.size w ((w.alloc o).alloc (vcells 2 b)) := fun o => ((Below.refl _ _).alloc (Nat.le_refl _) _).alloc (by simp) _
  have HW := Lib.hid hW
  clear hW
  go_enter Tryz.func20, Tryz.ntmps20
  go_wp2_with fail
  refine (H.out _ _).mono ?_
  rintro e w1 ⟨rfl, hb⟩
  have HB := Lib.hid hb
  have HB1 : Hid (Below w.heap.size w w1) := (HW.out _).trans (hb.mono (by simp; omega))
  have c0 : w1.cell? ⟨w.heap.size + 1, 0, none⟩ = some (.int .i64 2) := six_at hb 0 _ rfl
  have c1 : w1.cell? ⟨w.heap.size + 1, 1, none⟩ = some (.int .i64 b) := six_at hb 1 _ rfl
  have c2 : w1.cell? ⟨w.heap.size + 1, 2, none⟩ = some (.string ⟨#[]⟩) := six_at hb 2 _ rfl
  have c3 : w1.cell? ⟨w.heap.size + 1, 3, none⟩ = some (.string ⟨#[]⟩) := six_at hb 3 _ rfl
  have c4 : w1.cell? ⟨w.heap.size + 1, 4, none⟩ = some (.slice none 0 0) := six_at hb 4 _ rfl
  have c5 : w1.cell? ⟨w.heap.size + 1, 5, none⟩ = some (.slice none 0 0) := six_at hb 5 _ rfl
  clear hb
  go_wp2_with fail
  refine (H.out _ _).mono ?_
  rintro e w2 ⟨rfl, hb2⟩
  have HB2 : Hid (Below w.heap.size w w2) := HB1.out.trans (hb2.mono HB1.out.size)
  clear hb2 c0 c1 c2 c3 c4 c5
  go_wp2_with fail
  exact bodyPost_ret (v := .tuple #[.iface 66 (.int .i64 a), .iface 66 (.int .i64 b), .int .i64 0]) (by simp [results, Tryz.results20, go_sem]) rfl ⟨rfl, HB2.out⟩
set_option maxRecDepth 3000 in
theorem less_10_2 (a b : Int) (w : World) : Calls Tryz.prog 10 #[VX 2 a, VX 2 b] w fun e w' => e = .returned (.tuple #[.bool (decide (a < b)), .int .i64 0]) ∧ Below w.heap.size w w' := by
  have H := Lib.hid (cmp_2 a b)
  have HM := Lib.hid (lt_93b a b)
  unfold VX at *
  have hW : ∀ o o', Below w.heap.size w ((w.alloc o).alloc o') := fun o o' => ((Below.refl _ _).alloc (Nat.le_refl _) _).alloc (by simp) _
  have HW := Lib.hid hW
  clear hW
  go_enter Tryz.func10, Tryz.ntmps10
  go_wp2_with fail
  refine (H.out _).mono ?_
  rintro e w1 ⟨rfl, hb⟩
  have HB1 : Hid (Below w.heap.size w w1) := (HW.out _ _).trans (hb.mono (by simp; omega))
  clear hb
  go_wp2_with fail
  refine (HM.out _).mono ?_
  rintro e w2 ⟨rfl, hb2⟩
  have HB2 : Hid (Below w.heap.size w w2) := HB1.out.trans (hb2.mono HB1.out.size)
  clear hb2
  go_wp2_with fail
  exact bodyPost_ret (v := .tuple #[.bool (decide (a < b)), .int .i64 0]) (by simp [results, Tryz.results10, go_sem]) rfl ⟨rfl, HB2.out⟩
set_option maxRecDepth 3000 in
theorem less_11_2 (a b : Int) (w : World) : Calls Tryz.prog 11 #[VX 2 a, VX 2 b] w fun e w' => e = .returned (.tuple #[.bool (decide (a ≤ b)), .int .i64 0]) ∧ Below w.heap.size w w' := by
  have H := Lib.hid (cmp_2 a b)
  have HM := Lib.hid (le_94b a b)
  unfold VX at *
  have hW : ∀ o o', Below w.heap.size w ((w.alloc o).alloc o') := fun o o' => ((Below.refl _ _).alloc (Nat.le_refl _) _).alloc (by simp) _
  have HW := Lib.hid hW
  clear hW
  go_enter Tryz.func11, Tryz.ntmps11
  go_wp2_with fail
  refine (H.out _).mono ?_
  rintro e w1 ⟨rfl, hb⟩
  have HB1 : Hid (Below w.heap.size w w1) := (HW.out _ _).trans (hb.mono (by simp; omega))
  clear hb
  go_wp2_with fail
  refine (HM.out _).mono ?_
  rintro e w2 ⟨rfl, hb2⟩
  have HB2 : Hid (Below w.heap.size w w2) := HB1.out.trans (hb2.mono HB1.out.size)
  clear hb2
  go_wp2_with fail
  exact bodyPost_ret (v := .tuple #[.bool (decide (a ≤ b)), .int .i64 0]) (by simp [results, Tryz.results11, go_sem]) rfl ⟨rfl, HB2.out⟩
set_option maxRecDepth 3000 in
theorem eqv_2 (a b : Int) (w : World) : Calls Tryz.prog 12 #[VX 2 a, VX 2 b] w fun e w' => e = .returned (.tuple #[.bool (a == b), .bool false]) ∧ Below w.heap.size w w' := by
  have H := Lib.hid (vx_2)
  have HM := Lib.hid (eq_92b a b)
  unfold VX at *
  have hW : ∀ o, Below w.heap.size w ((w.alloc o).alloc (vcells 2 b)) := fun o => ((Below.refl _ _).alloc (Nat.le_refl _) _).alloc (by simp) _
  have HW := Lib.hid hW
  clear hW
  go_enter Tryz.func12, Tryz.ntmps12
  go_wp2_with fail
  refine (H.out _ _).mono ?_
  rintro e w1 ⟨rfl, hb⟩
  have HB1 : Hid (Below w.heap.size w w1) := (HW.out _).trans (hb.mono (by simp; omega))
  have c0 : w1.cell? ⟨w.heap.size + 1, 0, none⟩ = some (.int .i64 2) := six_at hb 0 _ rfl
  have c1 : w1.cell? ⟨w.heap.size + 1, 1, none⟩ = some (.int .i64 b) := six_at hb 1 _ rfl
  have c2 : w1.cell? ⟨w.heap.size + 1, 2, none⟩ = some (.string ⟨#[]⟩) := six_at hb 2 _ rfl
  have c3 : w1.cell? ⟨w.heap.size + 1, 3, none⟩ = some (.string ⟨#[]⟩) := six_at hb 3 _ rfl
  have c4 : w1.cell? ⟨w.heap.size + 1, 4, none⟩ = some (.slice none 0 0) := six_at hb 4 _ rfl
  have c5 : w1.cell? ⟨w.heap.size + 1, 5, none⟩ = some (.slice none 0 0) := six_at hb 5 _ rfl
  clear hb
  go_wp2_with fail
  refine (H.out _ _).mono ?_
  rintro e w2 ⟨rfl, hb2⟩
  have HB2 : Hid (Below w.heap.size w w2) := HB1.out.trans (hb2.mono HB1.out.size)
  clear hb2 c0 c1 c2 c3 c4 c5
  go_wp2_with fail
  refine (HM.out _).mono ?_
  rintro e w3 ⟨rfl, hb3⟩
  have HB3 : Hid (Below w.heap.size w w3) := HB2.out.trans (hb3.mono HB2.out.size)
  clear hb3
  go_wp2_with fail
  exact bodyPost_ret (v := .tuple #[.bool (a == b), .bool false]) (by simp [results, Tryz.results12, go_sem]) rfl ⟨rfl, HB3.out⟩
theorem vx_8 (n : Int) (w : World) : Calls Tryz.prog 21 #[VX 8 n] w fun e w' => e = .returned (.tuple #[.iface 83 (.agg #[.int .i64 n]), .bool true]) ∧ Below w.heap.size w w' := by
  have H := Lib.hid (new_30 n)
  unfold VX
  go_enter Tryz.func21, Tryz.ntmps21
  go_wp2_with fail
  refine (H.out _).mono ?_
  rintro e w1 ⟨rfl, hb⟩
  go_wp2_with fail
  exact bodyPost_ret (v := .tuple #[.iface 83 (.agg #[.int .i64 n]), .bool true]) (by simp [results, Tryz.results21, go_sem]) rfl ⟨rfl, ((Below.refl _ _).alloc (Nat.le_refl _) _).trans (hb.mono (by simp))⟩
theorem cmp_8 (a b : Int) (w : World) : Calls Tryz.prog 20 #[VX 8 a, VX 8 b] w fun e w' => e = .returned (.tuple #[.iface 83 (.agg #[.int .i64 a]), .iface 83 (.agg #[.int .i64 b]), .int .i64 0]) ∧ Below w.heap.size w w' := by
  have H := Lib.hid (vx_8)
  unfold VX at *
  have hW : ∀ o, Below w.heap.size w ((w.alloc o).alloc (vcells 8 b)) := fun o => ((Below.refl _ _).alloc (Nat.le_refl _) _).alloc (by simp) _
  have HW := Lib.hid hW
  clear hW
  go_enter Tryz.func20, Tryz.ntmps20
  go_wp2_with fail
  refine (H.out _ _).mono ?_
  rintro e w1 ⟨rfl, hb⟩
  have HB := Lib.hid hb
  have HB1 : Hid (Below w.heap.size w w1) := (HW.out _).trans (hb.mono (by simp; omega))
  have c0 : w1.cell? ⟨w.heap.size + 1, 0, none⟩ = some (.int .i64 8) := six_at hb 0 _ rfl
  have c1 : w1.cell? ⟨w.heap.size + 1, 1, none⟩ = some (.int .i64 b) := six_at hb 1 _ rfl
  have c2 : w1.cell? ⟨w.heap.size + 1, 2, none⟩ = some (.string ⟨#[]⟩) := six_at hb 2 _ rfl
  have c3 : w1.cell? ⟨w.heap.size + 1, 3, none⟩ = some (.string ⟨#[]⟩) := six_at hb 3 _ rfl
  have c4 : w1.cell? ⟨w.heap.size + 1, 4, none⟩ = some (.slice none 0 0) := six_at hb 4 _ rfl
  have c5 : w1.cell? ⟨w.heap.size + 1, 5, none⟩ = some (.slice none 0 0) := six_at hb 5 _ rfl
  clear hb
  go_wp2_with fail
  refine (H.out _ _).mono ?_
  rintro e w2 ⟨rfl, hb2⟩
  have HB2 : Hid (Below w.heap.size w w2) := HB1.out.trans (hb2.mono HB1.out.size)
  clear hb2 c0 c1 c2 c3 c4 c5
  go_wp2_with fail
  exact bodyPost_ret (v := .tuple #[.iface 83 (.agg #[.int .i64 a]), .iface 83 (.agg #[.int .i64 b]), .int .i64 0]) (by simp [results, Tryz.results20, go_sem]) rfl ⟨rfl, HB2.out⟩
set_option maxRecDepth 3000 in
theorem less_10_8 (a b : Int) (w : World) : Calls Tryz.prog 10 #[VX 8 a, VX 8 b] w fun e w' => e = .returned (.tuple #[.bool (decide (a < b)), .int .i64 0]) ∧ Below w.heap.size w w' := by
  have H := Lib.hid (cmp_8 a b)
  have HM := Lib.hid (m_115 a b)
  unfold VX at *
  have hW : ∀ o o', Below w.heap.size w ((w.alloc o).alloc o') := fun o o' => ((Below.refl _ _).alloc (Nat.le_refl _) _).alloc (by simp) _
  have HW := Lib.hid hW
  clear hW
  go_enter Tryz.func10, Tryz.ntmps10
  go_wp2_with fail
  refine (H.out _).mono ?_
  rintro e w1 ⟨rfl, hb⟩
  have HB1 : Hid (Below w.heap.size w w1) := (HW.out _ _).trans (hb.mono (by simp; omega))
  clear hb
  go_wp2_with fail
  refine (HM.out _).mono ?_
  rintro e w2 ⟨rfl, hb2⟩
  have HB2 : Hid (Below w.heap.size w w2) := HB1.out.trans (hb2.mono HB1.out.size)
  clear hb2
  go_wp2_with fail
  exact bodyPost_ret (v := .tuple #[.bool (decide (a < b)), .int .i64 0]) (by simp [results, Tryz.results10, go_sem]) rfl ⟨rfl, HB2.out⟩
set_option maxRecDepth 3000 in
theorem less_11_8 (a b : Int) (w : World) : Calls Tryz.prog 11 #[VX 8 a, VX 8 b] w fun e w' => e = .returned (.tuple #[.bool (decide (a ≤ b)), .int .i64 0]) ∧ Below w.heap.size w w' := by
  have H := Lib.hid (cmp_8 a b)
  have HM := Lib.hid (m_116 a b)
  unfold VX at *
  have hW : ∀ o o', Below w.heap.size w ((w.alloc o).alloc o') := fun o o' => ((Below.refl _ _).alloc (Nat.le_refl _) _).alloc (by simp) _
  have HW := Lib.hid hW
  clear hW
  go_enter Tryz.func11, Tryz.ntmps11
  go_wp2_with fail
  refine (H.out _).mono ?_
  rintro e w1 ⟨rfl, hb⟩
  have HB1 : Hid (Below w.heap.size w w1) := (HW.out _ _).trans (hb.mono (by simp; omega))
  clear hb
  go_wp2_with fail
  refine (HM.out _).mono ?_
  rintro e w2 ⟨rfl, hb2⟩
  have HB2 : Hid (Below w.heap.size w w2) := HB1.out.trans (hb2.mono HB1.out.size)
  clear hb2
  go_wp2_with fail
  exact bodyPost_ret (v := .tuple #[.bool (decide (a ≤ b)), .int .i64 0]) (by simp [results, Tryz.results11, go_sem]) rfl ⟨rfl, HB2.out⟩
set_option maxRecDepth 3000 in
theorem eqv_8 (a b : Int) (w : World) : Calls Tryz.prog 12 #[VX 8 a, VX 8 b] w fun e w' => e = .returned (.tuple #[.bool (a == b), .bool false]) ∧ Below w.heap.size w w' := by
  have H := Lib.hid (vx_8)
  have HM := Lib.hid (m_114 a b)
  unfold VX at *
  have hW : ∀ o, Below w.heap.size w ((w.alloc o).alloc (vcells 8 b)) := fun o => ((Below.refl _ _).alloc (Nat.le_refl _) _).alloc (by simp) _
  have HW := Lib.hid hW
  clear hW
  go_enter Tryz.func12, Tryz.ntmps12
  go_wp2_with fail
  refine (H.out _ _).mono ?_
  rintro e w1 ⟨rfl, hb⟩
  have HB1 : Hid (Below w.heap.size w w1) := (HW.out _).trans (hb.mono (by simp; omega))
  have c0 : w1.cell? ⟨w.heap.size + 1, 0, none⟩ = some (.int .i64 8) := six_at hb 0 _ rfl
  have c1 : w1.cell? ⟨w.heap.size + 1, 1, none⟩ = some (.int .i64 b) := six_at hb 1 _ rfl
  have c2 : w1.cell? ⟨w.heap.size + 1, 2, none⟩ = some (.string ⟨#[]⟩) := six_at hb 2 _ rfl
  have c3 : w1.cell? ⟨w.heap.size + 1, 3, none⟩ = some (.string ⟨#[]⟩) := six_at hb 3 _ rfl
  have c4 : w1.cell? ⟨w.heap.size + 1, 4, none⟩ = some (.slice none 0 0) := six_at hb 4 _ rfl
  have c5 : w1.cell? ⟨w.heap.size + 1, 5, none⟩ = some (.slice none 0 0) := six_at hb 5 _ rfl
  clear hb
  go_wp2_with fail
  refine (H.out _ _).mono ?_
  rintro e w2 ⟨rfl, hb2⟩
  have HB2 : Hid (Below w.heap.size w w2) := HB1.out.trans (hb2.mono HB1.out.size)
  clear hb2 c0 c1 c2 c3 c4 c5
  go_wp2_with fail
  refine (HM.out _).mono ?_
  rintro e w3 ⟨rfl, hb3⟩
  have HB3 : Hid (Below w.heap.size w w3) := HB2.out.trans (hb3.mono HB2.out.size)
  clear hb3
  go_wp2_with fail
  exact bodyPost_ret (v := .tuple #[.bool (a == b), .bool false]) (by simp [results, Tryz.results12, go_sem]) rfl ⟨rfl, HB3.out⟩
theorem vx_9 (n : Int) (w : World) : Calls Tryz.prog 21 #[VX 9 n] w fun e w' => e = .returned (.tuple #[.iface 85 (.agg #[.int .i64 n]), .bool true]) ∧ Below w.heap.size w w' := by
  have H := Lib.hid (new_31 n)
  unfold VX
  go_enter Tryz.func21, Tryz.ntmps21
  go_wp2_with fail
  refine (H.out _).mono ?_
  rintro e w1 ⟨rfl, hb⟩
  go_wp2_with fail
  exact bodyPost_ret (v := .tuple #[.iface 85 (.agg #[.int .i64 n]), .bool true]) (by simp [results, Tryz.results21, go_sem]) rfl ⟨rfl, ((Below.refl _ _).alloc (Nat.le_refl _) _).trans (hb.mono (by simp))⟩
theorem cmp_9 (a b : Int) (w : World) : Calls Tryz.prog 20 #[VX 9 a, VX 9 b] w fun e w' => e = .returned (.tuple #[.iface 85 (.agg #[.int .i64 a]), .iface 85 (.agg #[.int .i64 b]), .int .i64 0]) ∧ Below w.heap.size w w' := by
  have H := Lib.hid (vx_9)
  unfold VX at *
  have hW : ∀ o, Below w.heap.size w ((w.alloc o).alloc (vcells 9 b)) := fun o => ((Below.refl _ _).alloc (Nat.le_refl _) _).alloc (by simp) _
  have HW := Lib.hid hW
  clear hW
  go_enter Tryz.func20, Tryz.ntmps20
  go_wp2_with fail
  refine (H.out _ _).mono ?_
  rintro e w1 ⟨rfl, hb⟩
  have HB := Lib.hid hb
  have HB1 : Hid (Below w.heap.size w w1) := (HW.out _).trans (hb.mono (by simp; omega))
  have c0 : w1.cell? ⟨w.heap.size + 1, 0, none⟩ = some (.int .i64 9) := six_at hb 0 _ rfl
  have c1 : w1.cell? ⟨w.heap.size + 1, 1, none⟩ = some (.int .i64 b) := six_at hb 1 _ rfl
  have c2 : w1.cell? ⟨w.heap.size + 1, 2, none⟩ = some (.string ⟨#[]⟩) := six_at hb 2 _ rfl
  have c3 : w1.cell? ⟨w.heap.size + 1, 3, none⟩ = some (.string ⟨#[]⟩) := six_at hb 3 _ rfl
  have c4 : w1.cell? ⟨w.heap.size + 1, 4, none⟩ = some (.slice none 0 0) := six_at hb 4 _ rfl
  have c5 : w1.cell? ⟨w.heap.size + 1, 5, none⟩ = some (.slice none 0 0) := six_at hb 5 _ rfl
  clear hb
  go_wp2_with fail
  refine (H.out _ _).mono ?_
  rintro e w2 ⟨rfl, hb2⟩
  have HB2 : Hid (Below w.heap.size w w2) := HB1.out.trans (hb2.mono HB1.out.size)
  clear hb2 c0 c1 c2 c3 c4 c5
  go_wp2_with fail
  exact bodyPost_ret (v := .tuple #[.iface 85 (.agg #[.int .i64 a]), .iface 85 (.agg #[.int .i64 b]), .int .i64 0]) (by simp [results, Tryz.results20, go_sem]) rfl ⟨rfl, HB2.out⟩
set_option maxRecDepth 3000 in
theorem less_10_9 (a b : Int) (w : World) : Calls Tryz.prog 10 #[VX 9 a, VX 9 b] w fun e w' => e = .returned (.tuple #[.bool (decide (a < b)), .int .i64 0]) ∧ Below w.heap.size w w' := by
  have H := Lib.hid (cmp_9 a b)
  have HM := Lib.hid (m_122 a b)
  unfold VX at *
  have hW : ∀ o o', Below w.heap.size w ((w.alloc o).alloc o') := fun o o' => ((Below.refl _ _).alloc (Nat.le_refl _) _).alloc (by simp) _
  have HW := Lib.hid hW
  clear hW
  go_enter Tryz.func10, Tryz.ntmps10
  go_wp2_with fail
  refine (H.out _).mono ?_
  rintro e w1 ⟨rfl, hb⟩
  have HB1 : Hid (Below w.heap.size w w1) := (HW.out _ _).trans (hb.mono (by simp; omega))
  clear hb
  go_wp2_with fail
  refine (HM.out _).mono ?_
  rintro e w2 ⟨rfl, hb2⟩
  have HB2 : Hid (Below w.heap.size w w2) := HB1.out.trans (hb2.mono HB1.out.size)
  clear hb2
  go_wp2_with fail
  exact bodyPost_ret (v := .tuple #[.bool (decide (a < b)), .int .i64 0]) (by simp [results, Tryz.results10, go_sem]) rfl ⟨rfl, HB2.out⟩
set_option maxRecDepth 3000 in
theorem less_11_9 (a b : Int) (w : World) : Calls Tryz.prog 11 #[VX 9 a, VX 9 b] w fun e w' => e = .returned (.tuple #[.bool (decide (a ≤ b)), .int .i64 0]) ∧ Below w.heap.size w w' := by
  have H := Lib.hid (cmp_9 a b)
  have HM := Lib.hid (m_123 a b)
  unfold VX at *
  have hW : ∀ o o', Below w.heap.size w ((w.alloc o).alloc o') := fun o o' => ((Below.refl _ _).alloc (Nat.le_refl _) _).alloc (by simp) _
  have HW := Lib.hid hW
  clear hW
  go_enter Tryz.func11, Tryz.ntmps11
  go_wp2_with fail
  refine (H.out _).mono ?_
  rintro e w1 ⟨rfl, hb⟩
  have HB1 : Hid (Below w.heap.size w w1) := (HW.out _ _).trans (hb.mono (by simp; omega))
  clear hb
  go_wp2_with fail
  refine (HM.out _).mono ?_
  rintro e w2 ⟨rfl, hb2⟩
  have HB2 : Hid (Below w.heap.size w w2) := HB1.out.trans (hb2.mono HB1.out.size)
  clear hb2
  go_wp2_with fail
  exact bodyPost_ret (v := .tuple #[.bool (decide (a ≤ b)), .int .i64 0]) (by simp [results, Tryz.results11, go_sem]) rfl ⟨rfl, HB2.out⟩
set_option maxRecDepth 3000 in
theorem eqv_9 (a b : Int) (w : World) : Calls Tryz.prog 12 #[VX 9 a, VX 9 b] w fun e w' => e = .returned (.tuple #[.bool (a == b), .bool false]) ∧ Below w.heap.size w w' := by
  have H := Lib.hid (vx_9)
  have HM := Lib.hid (m_121 a b)
  unfold VX at *
  have hW : ∀ o, Below w.heap.size w ((w.alloc o).alloc (vcells 9 b)) := fun o => ((Below.refl _ _).alloc (Nat.le_refl _) _).alloc (by simp) _
  have HW := Lib.hid hW
  clear hW
  go_enter Tryz.func12, Tryz.ntmps12
  go_wp2_with fail
  refine (H.out _ _).mono ?_
  rintro e w1 ⟨rfl, hb⟩
  have HB1 : Hid (Below w.heap.size w w1) := (HW.out _).trans (hb.mono (by simp; omega))
  have c0 : w1.cell? ⟨w.heap.size + 1, 0, none⟩ = some (.int .i64 9) := six_at hb 0 _ rfl
  have c1 : w1.cell? ⟨w.heap.size + 1, 1, none⟩ = some (.int .i64 b) := six_at hb 1 _ rfl
  have c2 : w1.cell? ⟨w.heap.size + 1, 2, none⟩ = some (.string ⟨#[]⟩) := six_at hb 2 _ rfl
  have c3 : w1.cell? ⟨w.heap.size + 1, 3, none⟩ = some (.string ⟨#[]⟩) := six_at hb 3 _ rfl
  have c4 : w1.cell? ⟨w.heap.size + 1, 4, none⟩ = some (.slice none 0 0) := six_at hb 4 _ rfl
  have c5 : w1.cell? ⟨w.heap.size + 1, 5, none⟩ = some (.slice none 0 0) := six_at hb 5 _ rfl
  clear hb
  go_wp2_with fail
  refine (H.out _ _).mono ?_
  rintro e w2 ⟨rfl, hb2⟩
  have HB2 : Hid (Below w.heap.size w w2) := HB1.out.trans (hb2.mono HB1.out.size)
  clear hb2 c0 c1 c2 c3 c4 c5
  go_wp2_with fail
  refine (HM.out _).mono ?_
  rintro e w3 ⟨rfl, hb3⟩
  have HB3 : Hid (Below w.heap.size w w3) := HB2.out.trans (hb3.mono HB2.out.size)
  clear hb3
  go_wp2_with fail
  exact bodyPost_ret (v := .tuple #[.bool (a == b), .bool false]) (by simp [results, Tryz.results12, go_sem]) rfl ⟨rfl, HB3.out⟩
end Go.Proofs.YtliinhadngopgaaGreat
