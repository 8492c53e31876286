/-
  Whatever the kind and the two numbers: of two longs, datetimes or durations just one is less, or they are equal; the numbers decide.
-/
import Derived.Test.YtliinhadngopgaaGreatLe
namespace Go.Proofs.YtliinhadngopgaaGreat
open Go.ChangeShapes Go.WideShapes Go.ChangeAt Go.RowKit
set_option linter.unusedVariables false

def W3 (w : World) (K a b : Int) : World := ((w.alloc (.cells #[.int .i64 2, .int .i64 8, .int .i64 9] 31)).alloc (vcells K a)).alloc (vcells K b)
theorem W3_size (w : World) (K a b : Int) : (W3 w K a b).heap.size = w.heap.size + 3 := by simp [W3]
theorem W3_below (w : World) (K a b : Int) : Below w.heap.size w (W3 w K a b) := (((Below.refl _ _).alloc (Nat.le_refl _) _).alloc (by simp) _).alloc (by simp; omega) _
theorem x_at {w w1 : World} {K a b : Int} (hb : Below (W3 w K a b).heap.size (W3 w K a b) w1) (j : Nat) (v : Value) (h : (#[.int .i64 K, .int .i64 a, .string ⟨#[]⟩, .string ⟨#[]⟩, .slice none 0 0, .slice none 0 0] : Array Value)[j]? = some v) : w1.cell? ⟨w.heap.size + 1, j, none⟩ = some v := by
  rw [hb.cell (by rw [W3_size]; show w.heap.size + 1 < _; omega)]
  have e : (w.alloc (.cells #[.int .i64 2, .int .i64 8, .int .i64 9] 31)).heap.size = w.heap.size + 1 := by simp
  unfold W3
  rw [World.cell?_alloc_past _ _ _ (by simp)]
  rw [← e]
  exact cell_at _ _ 25 j v h
theorem y_at {w w1 : World} {K a b : Int} (hb : Below (W3 w K a b).heap.size (W3 w K a b) w1) (j : Nat) (v : Value) (h : (#[.int .i64 K, .int .i64 b, .string ⟨#[]⟩, .string ⟨#[]⟩, .slice none 0 0, .slice none 0 0] : Array Value)[j]? = some v) : w1.cell? ⟨w.heap.size + 2, j, none⟩ = some v := by
  rw [hb.cell (by rw [W3_size]; show w.heap.size + 2 < _; omega)]
  have e : ((w.alloc (.cells #[.int .i64 2, .int .i64 8, .int .i64 9] 31)).alloc (vcells K a)).heap.size = w.heap.size + 2 := by simp
  unfold W3
  rw [← e]
  exact cell_at _ _ 25 j v h
set_option maxRecDepth 100000 in
set_option maxHeartbeats 4000000 in
theorem law_2 (k : Nat) (hk : k % 3 = 0) (h255 : k ≤ 255) (a b : Int) (w : World) :
    Calls Tryz.prog 4 #[.int .u8 (k : Int), .int .i64 a, .int .i64 b] w fun e w' => e = .returned (.bool true) ∧ Below w.heap.size w w' := by
  have m1 : (k : Int) % 3 = 0 := by omega
  have m2 : (k : Int).tmod 3 = 0 := by rw [Int.tmod_eq_emod_of_nonneg (by omega)]; omega
  have HL := Lib.hid (less_10_2)
  have HQ := Lib.hid (less_11_2)
  have HE := Lib.hid (eqv_2)
  unfold VX at *
  have HB0 : Hid (Below (W3 w 2 a b).heap.size (W3 w 2 a b) (W3 w 2 a b)) := Below.refl _ _
  have HW := Lib.hid (W3_below w 2 a b)
  unfold W3 vcells at HB0
  go_enter Tryz.func4, Tryz.ntmps4
  go_wp2_with fail
  refine (HL.out a b _).mono ?_
  rintro e w1 ⟨rfl, hb1⟩
  have HB : Hid (Below (W3 w 2 a b).heap.size (W3 w 2 a b) w1) := hb1
  clear hb1
  have cx0 : w1.cell? ⟨w.heap.size + 1, 0, none⟩ = some (.int .i64 2) := x_at HB.out 0 _ rfl
  have cx1 : w1.cell? ⟨w.heap.size + 1, 1, none⟩ = some (.int .i64 a) := x_at HB.out 1 _ rfl
  have cx2 : w1.cell? ⟨w.heap.size + 1, 2, none⟩ = some (.string ⟨#[]⟩) := x_at HB.out 2 _ rfl
  have cx3 : w1.cell? ⟨w.heap.size + 1, 3, none⟩ = some (.string ⟨#[]⟩) := x_at HB.out 3 _ rfl
  have cx4 : w1.cell? ⟨w.heap.size + 1, 4, none⟩ = some (.slice none 0 0) := x_at HB.out 4 _ rfl
  have cx5 : w1.cell? ⟨w.heap.size + 1, 5, none⟩ = some (.slice none 0 0) := x_at HB.out 5 _ rfl
  have cy0 : w1.cell? ⟨w.heap.size + 2, 0, none⟩ = some (.int .i64 2) := y_at HB.out 0 _ rfl
  have cy1 : w1.cell? ⟨w.heap.size + 2, 1, none⟩ = some (.int .i64 b) := y_at HB.out 1 _ rfl
  have cy2 : w1.cell? ⟨w.heap.size + 2, 2, none⟩ = some (.string ⟨#[]⟩) := y_at HB.out 2 _ rfl
  have cy3 : w1.cell? ⟨w.heap.size + 2, 3, none⟩ = some (.string ⟨#[]⟩) := y_at HB.out 3 _ rfl
  have cy4 : w1.cell? ⟨w.heap.size + 2, 4, none⟩ = some (.slice none 0 0) := y_at HB.out 4 _ rfl
  have cy5 : w1.cell? ⟨w.heap.size + 2, 5, none⟩ = some (.slice none 0 0) := y_at HB.out 5 _ rfl
  go_wp2_with fail
  refine (HL.out b a _).mono ?_
  rintro e w2 ⟨rfl, hb2⟩
  have HBn : Hid (Below (W3 w 2 a b).heap.size (W3 w 2 a b) w2) := HB.out.trans (hb2.mono HB.out.size)
  clear cx0 cx1 cx2 cx3 cx4 cx5 cy0 cy1 cy2 cy3 cy4 cy5
  clear hb2 HB
  have HB := HBn
  clear HBn
  have cx0 : w2.cell? ⟨w.heap.size + 1, 0, none⟩ = some (.int .i64 2) := x_at HB.out 0 _ rfl
  have cx1 : w2.cell? ⟨w.heap.size + 1, 1, none⟩ = some (.int .i64 a) := x_at HB.out 1 _ rfl
  have cx2 : w2.cell? ⟨w.heap.size + 1, 2, none⟩ = some (.string ⟨#[]⟩) := x_at HB.out 2 _ rfl
  have cx3 : w2.cell? ⟨w.heap.size + 1, 3, none⟩ = some (.string ⟨#[]⟩) := x_at HB.out 3 _ rfl
  have cx4 : w2.cell? ⟨w.heap.size + 1, 4, none⟩ = some (.slice none 0 0) := x_at HB.out 4 _ rfl
  have cx5 : w2.cell? ⟨w.heap.size + 1, 5, none⟩ = some (.slice none 0 0) := x_at HB.out 5 _ rfl
  have cy0 : w2.cell? ⟨w.heap.size + 2, 0, none⟩ = some (.int .i64 2) := y_at HB.out 0 _ rfl
  have cy1 : w2.cell? ⟨w.heap.size + 2, 1, none⟩ = some (.int .i64 b) := y_at HB.out 1 _ rfl
  have cy2 : w2.cell? ⟨w.heap.size + 2, 2, none⟩ = some (.string ⟨#[]⟩) := y_at HB.out 2 _ rfl
  have cy3 : w2.cell? ⟨w.heap.size + 2, 3, none⟩ = some (.string ⟨#[]⟩) := y_at HB.out 3 _ rfl
  have cy4 : w2.cell? ⟨w.heap.size + 2, 4, none⟩ = some (.slice none 0 0) := y_at HB.out 4 _ rfl
  have cy5 : w2.cell? ⟨w.heap.size + 2, 5, none⟩ = some (.slice none 0 0) := y_at HB.out 5 _ rfl
  go_wp2_with fail
  refine (HQ.out a b _).mono ?_
  rintro e w3 ⟨rfl, hb3⟩
  have HBn : Hid (Below (W3 w 2 a b).heap.size (W3 w 2 a b) w3) := HB.out.trans (hb3.mono HB.out.size)
  clear cx0 cx1 cx2 cx3 cx4 cx5 cy0 cy1 cy2 cy3 cy4 cy5
  clear hb3 HB
  have HB := HBn
  clear HBn
  have cx0 : w3.cell? ⟨w.heap.size + 1, 0, none⟩ = some (.int .i64 2) := x_at HB.out 0 _ rfl
  have cx1 : w3.cell? ⟨w.heap.size + 1, 1, none⟩ = some (.int .i64 a) := x_at HB.out 1 _ rfl
  have cx2 : w3.cell? ⟨w.heap.size + 1, 2, none⟩ = some (.string ⟨#[]⟩) := x_at HB.out 2 _ rfl
  have cx3 : w3.cell? ⟨w.heap.size + 1, 3, none⟩ = some (.string ⟨#[]⟩) := x_at HB.out 3 _ rfl
  have cx4 : w3.cell? ⟨w.heap.size + 1, 4, none⟩ = some (.slice none 0 0) := x_at HB.out 4 _ rfl
  have cx5 : w3.cell? ⟨w.heap.size + 1, 5, none⟩ = some (.slice none 0 0) := x_at HB.out 5 _ rfl
  have cy0 : w3.cell? ⟨w.heap.size + 2, 0, none⟩ = some (.int .i64 2) := y_at HB.out 0 _ rfl
  have cy1 : w3.cell? ⟨w.heap.size + 2, 1, none⟩ = some (.int .i64 b) := y_at HB.out 1 _ rfl
  have cy2 : w3.cell? ⟨w.heap.size + 2, 2, none⟩ = some (.string ⟨#[]⟩) := y_at HB.out 2 _ rfl
  have cy3 : w3.cell? ⟨w.heap.size + 2, 3, none⟩ = some (.string ⟨#[]⟩) := y_at HB.out 3 _ rfl
  have cy4 : w3.cell? ⟨w.heap.size + 2, 4, none⟩ = some (.slice none 0 0) := y_at HB.out 4 _ rfl
  have cy5 : w3.cell? ⟨w.heap.size + 2, 5, none⟩ = some (.slice none 0 0) := y_at HB.out 5 _ rfl
  go_wp2_with fail
  refine (HE.out a b _).mono ?_
  rintro e w4 ⟨rfl, hb4⟩
  have HBn : Hid (Below (W3 w 2 a b).heap.size (W3 w 2 a b) w4) := HB.out.trans (hb4.mono HB.out.size)
  clear cx0 cx1 cx2 cx3 cx4 cx5 cy0 cy1 cy2 cy3 cy4 cy5
  clear hb4 HB
  have hbel : Below w.heap.size w w4 := HW.out.trans (HBn.out.mono HW.out.size)
  clear HBn
  rcases Int.lt_trichotomy a b with h | h | h
  · have g1 : decide (a < b) = true := by simpa using h
    have g2 : decide (b < a) = false := by simp; omega
    have g3 : decide (a ≤ b) = true := by simp; omega
    have g4 : (a == b) = false := by rw [beq_eq_false_iff_ne]; omega
    rw [g4]
    go_wp2_with fail
    go_ret
    exact ⟨rfl, hbel⟩
  · subst h
    have g1 : decide (a < a) = false := by simp
    have g3 : decide (a ≤ a) = true := by simp
    have g4 : (a == a) = true := by simp
    rw [g4]
    go_wp2_with fail
    go_ret
    exact ⟨rfl, hbel⟩
  · have g1 : decide (a < b) = false := by simp; omega
    have g2 : decide (b < a) = true := by simpa using h
    have g3 : decide (a ≤ b) = false := by simp; omega
    have g4 : (a == b) = false := by rw [beq_eq_false_iff_ne]; omega
    rw [g4]
    go_wp2_with fail
    go_ret
    exact ⟨rfl, hbel⟩
set_option maxRecDepth 100000 in
set_option maxHeartbeats 4000000 in
theorem law_8 (k : Nat) (hk : k % 3 = 1) (h255 : k ≤ 255) (a b : Int) (w : World) :
    Calls Tryz.prog 4 #[.int .u8 (k : Int), .int .i64 a, .int .i64 b] w fun e w' => e = .returned (.bool true) ∧ Below w.heap.size w w' := by
  have m1 : (k : Int) % 3 = 1 := by omega
  have m2 : (k : Int).tmod 3 = 1 := by rw [Int.tmod_eq_emod_of_nonneg (by omega)]; omega
  have HL := Lib.hid (less_10_8)
  have HQ := Lib.hid (less_11_8)
  have HE := Lib.hid (eqv_8)
  unfold VX at *
  have HB0 : Hid (Below (W3 w 8 a b).heap.size (W3 w 8 a b) (W3 w 8 a b)) := Below.refl _ _
  have HW := Lib.hid (W3_below w 8 a b)
  unfold W3 vcells at HB0
  go_enter Tryz.func4, Tryz.ntmps4
  go_wp2_with fail
  refine (HL.out a b _).mono ?_
  rintro e w1 ⟨rfl, hb1⟩
  have HB : Hid (Below (W3 w 8 a b).heap.size (W3 w 8 a b) w1) := hb1
  clear hb1
  have cx0 : w1.cell? ⟨w.heap.size + 1, 0, none⟩ = some (.int .i64 8) := x_at HB.out 0 _ rfl
  have cx1 : w1.cell? ⟨w.heap.size + 1, 1, none⟩ = some (.int .i64 a) := x_at HB.out 1 _ rfl
  have cx2 : w1.cell? ⟨w.heap.size + 1, 2, none⟩ = some (.string ⟨#[]⟩) := x_at HB.out 2 _ rfl
  have cx3 : w1.cell? ⟨w.heap.size + 1, 3, none⟩ = some (.string ⟨#[]⟩) := x_at HB.out 3 _ rfl
  have cx4 : w1.cell? ⟨w.heap.size + 1, 4, none⟩ = some (.slice none 0 0) := x_at HB.out 4 _ rfl
  have cx5 : w1.cell? ⟨w.heap.size + 1, 5, none⟩ = some (.slice none 0 0) := x_at HB.out 5 _ rfl
  have cy0 : w1.cell? ⟨w.heap.size + 2, 0, none⟩ = some (.int .i64 8) := y_at HB.out 0 _ rfl
  have cy1 : w1.cell? ⟨w.heap.size + 2, 1, none⟩ = some (.int .i64 b) := y_at HB.out 1 _ rfl
  have cy2 : w1.cell? ⟨w.heap.size + 2, 2, none⟩ = some (.string ⟨#[]⟩) := y_at HB.out 2 _ rfl
  have cy3 : w1.cell? ⟨w.heap.size + 2, 3, none⟩ = some (.string ⟨#[]⟩) := y_at HB.out 3 _ rfl
  have cy4 : w1.cell? ⟨w.heap.size + 2, 4, none⟩ = some (.slice none 0 0) := y_at HB.out 4 _ rfl
  have cy5 : w1.cell? ⟨w.heap.size + 2, 5, none⟩ = some (.slice none 0 0) := y_at HB.out 5 _ rfl
  go_wp2_with fail
  refine (HL.out b a _).mono ?_
  rintro e w2 ⟨rfl, hb2⟩
  have HBn : Hid (Below (W3 w 8 a b).heap.size (W3 w 8 a b) w2) := HB.out.trans (hb2.mono HB.out.size)
  clear cx0 cx1 cx2 cx3 cx4 cx5 cy0 cy1 cy2 cy3 cy4 cy5
  clear hb2 HB
  have HB := HBn
  clear HBn
  have cx0 : w2.cell? ⟨w.heap.size + 1, 0, none⟩ = some (.int .i64 8) := x_at HB.out 0 _ rfl
  have cx1 : w2.cell? ⟨w.heap.size + 1, 1, none⟩ = some (.int .i64 a) := x_at HB.out 1 _ rfl
  have cx2 : w2.cell? ⟨w.heap.size + 1, 2, none⟩ = some (.string ⟨#[]⟩) := x_at HB.out 2 _ rfl
  have cx3 : w2.cell? ⟨w.heap.size + 1, 3, none⟩ = some (.string ⟨#[]⟩) := x_at HB.out 3 _ rfl
  have cx4 : w2.cell? ⟨w.heap.size + 1, 4, none⟩ = some (.slice none 0 0) := x_at HB.out 4 _ rfl
  have cx5 : w2.cell? ⟨w.heap.size + 1, 5, none⟩ = some (.slice none 0 0) := x_at HB.out 5 _ rfl
  have cy0 : w2.cell? ⟨w.heap.size + 2, 0, none⟩ = some (.int .i64 8) := y_at HB.out 0 _ rfl
  have cy1 : w2.cell? ⟨w.heap.size + 2, 1, none⟩ = some (.int .i64 b) := y_at HB.out 1 _ rfl
  have cy2 : w2.cell? ⟨w.heap.size + 2, 2, none⟩ = some (.string ⟨#[]⟩) := y_at HB.out 2 _ rfl
  have cy3 : w2.cell? ⟨w.heap.size + 2, 3, none⟩ = some (.string ⟨#[]⟩) := y_at HB.out 3 _ rfl
  have cy4 : w2.cell? ⟨w.heap.size + 2, 4, none⟩ = some (.slice none 0 0) := y_at HB.out 4 _ rfl
  have cy5 : w2.cell? ⟨w.heap.size + 2, 5, none⟩ = some (.slice none 0 0) := y_at HB.out 5 _ rfl
  go_wp2_with fail
  refine (HQ.out a b _).mono ?_
  rintro e w3 ⟨rfl, hb3⟩
  have HBn : Hid (Below (W3 w 8 a b).heap.size (W3 w 8 a b) w3) := HB.out.trans (hb3.mono HB.out.size)
  clear cx0 cx1 cx2 cx3 cx4 cx5 cy0 cy1 cy2 cy3 cy4 cy5
  clear hb3 HB
  have HB := HBn
  clear HBn
  have cx0 : w3.cell? ⟨w.heap.size + 1, 0, none⟩ = some (.int .i64 8) := x_at HB.out 0 _ rfl
  have cx1 : w3.cell? ⟨w.heap.size + 1, 1, none⟩ = some (.int .i64 a) := x_at HB.out 1 _ rfl
  have cx2 : w3.cell? ⟨w.heap.size + 1, 2, none⟩ = some (.string ⟨#[]⟩) := x_at HB.out 2 _ rfl
  have cx3 : w3.cell? ⟨w.heap.size + 1, 3, none⟩ = some (.string ⟨#[]⟩) := x_at HB.out 3 _ rfl
  have cx4 : w3.cell? ⟨w.heap.size + 1, 4, none⟩ = some (.slice none 0 0) := x_at HB.out 4 _ rfl
  have cx5 : w3.cell? ⟨w.heap.size + 1, 5, none⟩ = some (.slice none 0 0) := x_at HB.out 5 _ rfl
  have cy0 : w3.cell? ⟨w.heap.size + 2, 0, none⟩ = some (.int .i64 8) := y_at HB.out 0 _ rfl
  have cy1 : w3.cell? ⟨w.heap.size + 2, 1, none⟩ = some (.int .i64 b) := y_at HB.out 1 _ rfl
  have cy2 : w3.cell? ⟨w.heap.size + 2, 2, none⟩ = some (.string ⟨#[]⟩) := y_at HB.out 2 _ rfl
  have cy3 : w3.cell? ⟨w.heap.size + 2, 3, none⟩ = some (.string ⟨#[]⟩) := y_at HB.out 3 _ rfl
  have cy4 : w3.cell? ⟨w.heap.size + 2, 4, none⟩ = some (.slice none 0 0) := y_at HB.out 4 _ rfl
  have cy5 : w3.cell? ⟨w.heap.size + 2, 5, none⟩ = some (.slice none 0 0) := y_at HB.out 5 _ rfl
  go_wp2_with fail
  refine (HE.out a b _).mono ?_
  rintro e w4 ⟨rfl, hb4⟩
  have HBn : Hid (Below (W3 w 8 a b).heap.size (W3 w 8 a b) w4) := HB.out.trans (hb4.mono HB.out.size)
  clear cx0 cx1 cx2 cx3 cx4 cx5 cy0 cy1 cy2 cy3 cy4 cy5
  clear hb4 HB
  have hbel : Below w.heap.size w w4 := HW.out.trans (HBn.out.mono HW.out.size)
  clear HBn
  rcases Int.lt_trichotomy a b with h | h | h
  · have g1 : decide (a < b) = true := by simpa using h
    have g2 : decide (b < a) = false := by simp; omega
    have g3 : decide (a ≤ b) = true := by simp; omega
    have g4 : (a == b) = false := by rw [beq_eq_false_iff_ne]; omega
    rw [g4]
    go_wp2_with fail
    go_ret
    exact ⟨rfl, hbel⟩
  · subst h
    have g1 : decide (a < a) = false := by simp
    have g3 : decide (a ≤ a) = true := by simp
    have g4 : (a == a) = true := by simp
    rw [g4]
    go_wp2_with fail
    go_ret
    exact ⟨rfl, hbel⟩
  · have g1 : decide (a < b) = false := by simp; omega
    have g2 : decide (b < a) = true := by simpa using h
    have g3 : decide (a ≤ b) = false := by simp; omega
    have g4 : (a == b) = false := by rw [beq_eq_false_iff_ne]; omega
    rw [g4]
    go_wp2_with fail
    go_ret
    exact ⟨rfl, hbel⟩
set_option maxRecDepth 100000 in
set_option maxHeartbeats 4000000 in
theorem law_9 (k : Nat) (hk : k % 3 = 2) (h255 : k ≤ 255) (a b : Int) (w : World) :
    Calls Tryz.prog 4 #[.int .u8 (k : Int), .int .i64 a, .int .i64 b] w fun e w' => e = .returned (.bool true) ∧ Below w.heap.size w w' := by
  have m1 : (k : Int) % 3 = 2 := by omega
  have m2 : (k : Int).tmod 3 = 2 := by rw [Int.tmod_eq_emod_of_nonneg (by omega)]; omega
  have HL := Lib.hid (less_10_9)
  have HQ := Lib.hid (less_11_9)
  have HE := Lib.hid (eqv_9)
  unfold VX at *
  have HB0 : Hid (Below (W3 w 9 a b).heap.size (W3 w 9 a b) (W3 w 9 a b)) := Below.refl _ _
  have HW := Lib.hid (W3_below w 9 a b)
  unfold W3 vcells at HB0
  go_enter Tryz.func4, Tryz.ntmps4
  go_wp2_with fail
  refine (HL.out a b _).mono ?_
  rintro e w1 ⟨rfl, hb1⟩
  have HB : Hid (Below (W3 w 9 a b).heap.size (W3 w 9 a b) w1) := hb1
  clear hb1
  have cx0 : w1.cell? ⟨w.heap.size + 1, 0, none⟩ = some (.int .i64 9) := x_at HB.out 0 _ rfl
  have cx1 : w1.cell? ⟨w.heap.size + 1, 1, none⟩ = some (.int .i64 a) := x_at HB.out 1 _ rfl
  have cx2 : w1.cell? ⟨w.heap.size + 1, 2, none⟩ = some (.string ⟨#[]⟩) := x_at HB.out 2 _ rfl
  have cx3 : w1.cell? ⟨w.heap.size + 1, 3, none⟩ = some (.string ⟨#[]⟩) := x_at HB.out 3 _ rfl
  have cx4 : w1.cell? ⟨w.heap.size + 1, 4, none⟩ = some (.slice none 0 0) := x_at HB.out 4 _ rfl
  have cx5 : w1.cell? ⟨w.heap.size + 1, 5, none⟩ = some (.slice none 0 0) := x_at HB.out 5 _ rfl
  have cy0 : w1.cell? ⟨w.heap.size + 2, 0, none⟩ = some (.int .i64 9) := y_at HB.out 0 _ rfl
  have cy1 : w1.cell? ⟨w.heap.size + 2, 1, none⟩ = some (.int .i64 b) := y_at HB.out 1 _ rfl
  have cy2 : w1.cell? ⟨w.heap.size + 2, 2, none⟩ = some (.string ⟨#[]⟩) := y_at HB.out 2 _ rfl
  have cy3 : w1.cell? ⟨w.heap.size + 2, 3, none⟩ = some (.string ⟨#[]⟩) := y_at HB.out 3 _ rfl
  have cy4 : w1.cell? ⟨w.heap.size + 2, 4, none⟩ = some (.slice none 0 0) := y_at HB.out 4 _ rfl
  have cy5 : w1.cell? ⟨w.heap.size + 2, 5, none⟩ = some (.slice none 0 0) := y_at HB.out 5 _ rfl
  go_wp2_with fail
  refine (HL.out b a _).mono ?_
  rintro e w2 ⟨rfl, hb2⟩
  have HBn : Hid (Below (W3 w 9 a b).heap.size (W3 w 9 a b) w2) := HB.out.trans (hb2.mono HB.out.size)
  clear cx0 cx1 cx2 cx3 cx4 cx5 cy0 cy1 cy2 cy3 cy4 cy5
  clear hb2 HB
  have HB := HBn
  clear HBn
  have cx0 : w2.cell? ⟨w.heap.size + 1, 0, none⟩ = some (.int .i64 9) := x_at HB.out 0 _ rfl
  have cx1 : w2.cell? ⟨w.heap.size + 1, 1, none⟩ = some (.int .i64 a) := x_at HB.out 1 _ rfl
  have cx2 : w2.cell? ⟨w.heap.size + 1, 2, none⟩ = some (.string ⟨#[]⟩) := x_at HB.out 2 _ rfl
  have cx3 : w2.cell? ⟨w.heap.size + 1, 3, none⟩ = some (.string ⟨#[]⟩) := x_at HB.out 3 _ rfl
  have cx4 : w2.cell? ⟨w.heap.size + 1, 4, none⟩ = some (.slice none 0 0) := x_at HB.out 4 _ rfl
  have cx5 : w2.cell? ⟨w.heap.size + 1, 5, none⟩ = some (.slice none 0 0) := x_at HB.out 5 _ rfl
  have cy0 : w2.cell? ⟨w.heap.size + 2, 0, none⟩ = some (.int .i64 9) := y_at HB.out 0 _ rfl
  have cy1 : w2.cell? ⟨w.heap.size + 2, 1, none⟩ = some (.int .i64 b) := y_at HB.out 1 _ rfl
  have cy2 : w2.cell? ⟨w.heap.size + 2, 2, none⟩ = some (.string ⟨#[]⟩) := y_at HB.out 2 _ rfl
  have cy3 : w2.cell? ⟨w.heap.size + 2, 3, none⟩ = some (.string ⟨#[]⟩) := y_at HB.out 3 _ rfl
  have cy4 : w2.cell? ⟨w.heap.size + 2, 4, none⟩ = some (.slice none 0 0) := y_at HB.out 4 _ rfl
  have cy5 : w2.cell? ⟨w.heap.size + 2, 5, none⟩ = some (.slice none 0 0) := y_at HB.out 5 _ rfl
  go_wp2_with fail
  refine (HQ.out a b _).mono ?_
  rintro e w3 ⟨rfl, hb3⟩
  have HBn : Hid (Below (W3 w 9 a b).heap.size (W3 w 9 a b) w3) := HB.out.trans (hb3.mono HB.out.size)
  clear cx0 cx1 cx2 cx3 cx4 cx5 cy0 cy1 cy2 cy3 cy4 cy5
  clear hb3 HB
  have HB := HBn
  clear HBn
  have cx0 : w3.cell? ⟨w.heap.size + 1, 0, none⟩ = some (.int .i64 9) := x_at HB.out 0 _ rfl
  have cx1 : w3.cell? ⟨w.heap.size + 1, 1, none⟩ = some (.int .i64 a) := x_at HB.out 1 _ rfl
  have cx2 : w3.cell? ⟨w.heap.size + 1, 2, none⟩ = some (.string ⟨#[]⟩) := x_at HB.out 2 _ rfl
  have cx3 : w3.cell? ⟨w.heap.size + 1, 3, none⟩ = some (.string ⟨#[]⟩) := x_at HB.out 3 _ rfl
  have cx4 : w3.cell? ⟨w.heap.size + 1, 4, none⟩ = some (.slice none 0 0) := x_at HB.out 4 _ rfl
  have cx5 : w3.cell? ⟨w.heap.size + 1, 5, none⟩ = some (.slice none 0 0) := x_at HB.out 5 _ rfl
  have cy0 : w3.cell? ⟨w.heap.size + 2, 0, none⟩ = some (.int .i64 9) := y_at HB.out 0 _ rfl
  have cy1 : w3.cell? ⟨w.heap.size + 2, 1, none⟩ = some (.int .i64 b) := y_at HB.out 1 _ rfl
  have cy2 : w3.cell? ⟨w.heap.size + 2, 2, none⟩ = some (.string ⟨#[]⟩) := y_at HB.out 2 _ rfl
  have cy3 : w3.cell? ⟨w.heap.size + 2, 3, none⟩ = some (.string ⟨#[]⟩) := y_at HB.out 3 _ rfl
  have cy4 : w3.cell? ⟨w.heap.size + 2, 4, none⟩ = some (.slice none 0 0) := y_at HB.out 4 _ rfl
  have cy5 : w3.cell? ⟨w.heap.size + 2, 5, none⟩ = some (.slice none 0 0) := y_at HB.out 5 _ rfl
  go_wp2_with fail
  refine (HE.out a b _).mono ?_
  rintro e w4 ⟨rfl, hb4⟩
  have HBn : Hid (Below (W3 w 9 a b).heap.size (W3 w 9 a b) w4) := HB.out.trans (hb4.mono HB.out.size)
  clear cx0 cx1 cx2 cx3 cx4 cx5 cy0 cy1 cy2 cy3 cy4 cy5
  clear hb4 HB
  have hbel : Below w.heap.size w w4 := HW.out.trans (HBn.out.mono HW.out.size)
  clear HBn
  rcases Int.lt_trichotomy a b with h | h | h
  · have g1 : decide (a < b) = true := by simpa using h
    have g2 : decide (b < a) = false := by simp; omega
    have g3 : decide (a ≤ b) = true := by simp; omega
    have g4 : (a == b) = false := by rw [beq_eq_false_iff_ne]; omega
    rw [g4]
    go_wp2_with fail
    go_ret
    exact ⟨rfl, hbel⟩
  · subst h
    have g1 : decide (a < a) = false := by simp
    have g3 : decide (a ≤ a) = true := by simp
    have g4 : (a == a) = true := by simp
    rw [g4]
    go_wp2_with fail
    go_ret
    exact ⟨rfl, hbel⟩
  · have g1 : decide (a < b) = false := by simp; omega
    have g2 : decide (b < a) = true := by simpa using h
    have g3 : decide (a ≤ b) = false := by simp; omega
    have g4 : (a == b) = false := by rw [beq_eq_false_iff_ne]; omega
    rw [g4]
    go_wp2_with fail
    go_ret
    exact ⟨rfl, hbel⟩

theorem fnLessOrder_walk (k a b : Int) (wk : (Lit.int .u8 k).wf = true) (wa : (Lit.int .i64 a).wf = true) (wb : (Lit.int .i64 b).wf = true) (w : World) :
    Calls Tryz.prog 4 #[.int .u8 k, .int .i64 a, .int .i64 b] w fun e w' => e = .returned (.bool true) ∧ Below w.heap.size w w' := by
  simp [Lit.wf, show IntKind.u8.min = 0 by rfl, show IntKind.u8.max = 255 by rfl] at wk
  obtain ⟨n, rfl⟩ : ∃ n : Nat, k = n := ⟨k.toNat, by omega⟩
  have h3 : n % 3 = 0 ∨ n % 3 = 1 ∨ n % 3 = 2 := by omega
  rcases h3 with h | h | h
  · exact law_2 n h (by omega) a b w
  · exact law_8 n h (by omega) a b w
  · exact law_9 n h (by omega) a b w

theorem fnLessOrder_own : ownKnob Tryz.prog.godebug = none := by kernel_rfl
set_option maxRecDepth 100000 in
theorem fnLessOrder_lifted (os : Os) (started : os.Started) (H : Type) (enc : TypeId × Value → H) :
    ReturnsInHanded {} Tryz.checked os 4 .any (Rows.fnLessOrderSpec.pre6 enc Tryz.prog Tryz.f4 Rows.fnLessOrderRow.domain false) (Rows.fnLessOrderSpec.post enc Tryz.prog Tryz.f4 false true false false) := by
  refine returnsInHanded_of_change (C := Tryz.checked) fnLessOrder_own started (by kernel_rfl) Tryz.func4
    (ChangeSpec.witness6 (enc := enc) (C := Tryz.checked) false ⟨#[], #[.int .u8 0, .int .i64 0, .int .i64 0], []⟩ 8 (by kernel_rfl) (by kernel_rfl) (by kernel_rfl) (by kernel_rfl)) ?_
  intro W base args ds gs before hval0 hW hcnd _
  have hval : ∀ (j : Nat) t v, Tryz.f4.params[j]? = some t → args[j]? = some v → Value.okWide Tryz.prog W .any base t v := hval0
  have hW' := hW
  obtain ⟨p, q, hA0, hV, rfl, hfz, hnd⟩ := hW
  have hA : DataW.TrodAll enc Tryz.prog W 0 (fun _ => true) true Tryz.f4.params.toList args.toList ds p := hA0
  rw [Tryz.params4] at hA hval
  obtain ⟨v0, vs0, d0, ds0, p0, q0, hargs, rfl, rfl, h0, r0⟩ := trodAll_cons hA
  obtain ⟨v1, vs1, d1, ds1, p1, q1, rfl, rfl, rfl, h1, r1⟩ := trodAll_cons r0
  obtain ⟨v2, vs2, d2, ds2, p2, q2, rfl, rfl, rfl, h2, r2⟩ := trodAll_cons r1
  obtain ⟨rfl, rfl, rfl⟩ := trodAll_nil r2
  obtain rfl : args = #[v0, v1, v2] := by cases args; simp_all
  obtain ⟨rfl, rfl⟩ := trodVars_none hV
  obtain ⟨a0, rfl, rfl, rfl, w0⟩ := open_int Tryz.underlying5 (hval 0 5 v0 rfl rfl) h0
  obtain ⟨a1, rfl, rfl, rfl, w1⟩ := open_int Tryz.underlying3 (hval 1 3 v1 rfl rfl) h1
  obtain ⟨a2, rfl, rfl, rfl, w2⟩ := open_int Tryz.underlying3 (hval 2 3 v2 rfl rfl) h2
  clear hA0 hval0
  refine (fnLessOrder_walk a0 a1 a2 w0 w1 w2 W).mono fun e W' ⟨he, bel⟩ => ?_
  subst he
  exact ⟨_, rfl, _, _, _, [], _, [], hW', trodAll_mk1 (shut_bool Tryz.underlying4 _), (trodAll_cons_mk (shut_int Tryz.underlying5 w0) (trodAll_cons_mk (shut_int Tryz.underlying3 w1) (trodAll_cons_mk (shut_int Tryz.underlying3 w2) trodAll_mk0))), rfl, bel.frame _, fun h => by cases h⟩

theorem fnLessOrder_over : Rows.fnLessOrderRow.holds Tryz.pinned (OpenSpec.ofChange Rows.fnLessOrderSpec) :=
  OpenClaim.holds_of_wide 4 Tryz.f4 rfl rfl rfl rfl rfl rfl rfl ⟨rfl, rfl, rfl, rfl, rfl⟩ rfl rfl rfl rfl rfl (by kernel_rfl) Tryz.func4 (by kernel_rfl)
    (of_decide_eq_true (by kernel_rfl)) (by unfold Func.isWrapper; first | (rw [if_pos (by decide +kernel)]; kernel_rfl) | (rw [if_neg (by decide +kernel)]; exact ⟨rfl, rfl⟩))
    (fun os started H enc _ => fnLessOrder_lifted os started H enc)

theorem fnLessOrder_proved : Rows.FnLessOrderSaid := fnLessOrder_over
#print axioms fnLessOrder_proved
end Go.Proofs.YtliinhadngopgaaGreat
