/-
  What NewDecimal and DecimalOf return, for an exponent from -4 to 14 where the number with so many zeros fits into 64 bits. Lemmas for this seat's laws.
-/
import Derived.Test.YtnoiijficdoglaaDoorMath
import Derived.Deep.RegionHeld3
namespace Go.Proofs.YtnoiijficdoglaaDoor
open Go.ChangeShapes Go.WideShapes Go.ChangeAt Go.RowKit
set_option linter.unusedVariables false

theorem pow_int (n : Int) (h0 : 0 ≤ n) (h1 : n ≤ 14) (w : World) (hp : Pows w) :
    Calls Tryd.prog 14 #[.int .i64 n] w fun e w' => e = .returned (.float .f64 (fb n)) ∧ ∃ m, w' = w.drewN m := by
  obtain ⟨k, rfl⟩ := Int.eq_ofNat_of_zero_le h0
  exact pow_nat k (by omega) w hp
theorem conv_int (n : Int) (h0 : 0 ≤ n) (h1 : n ≤ 14) : ∀ w, (convert 37 2 (.float .f64 (fb n))).run Tryd.prog w = .ok (.int .i64 (tp n)) w := by
  obtain ⟨k, rfl⟩ := Int.eq_ofNat_of_zero_le h0
  exact conv_one k (by omega)

theorem nw_neg (i e : Int) (h0 : -4 ≤ e) (h1 : e ≤ 0) (hi : (Lit.int .i64 i).wf = true) (w : World) (hw : Pows w) (t : TypeId) (u : Value) (he : Err w t u) :
    Calls Tryd.prog 12 #[.int .i64 i, .int .i64 e] w fun e' w' => e' = .returned (.tuple #[.agg #[.int .i64 (valM (i * tp (4 + e)))], dErr (okM (i * tp (4 + e))) t u]) ∧ Below w.heap.size w w' := by
  obtain ⟨s1, s2, s3, s4, s5⟩ := split_m i (tp (-e)) (tp (4 + e)) (tp_pos _) (tp_pos _) (tp_mul e h0 h1) (bounds_i64 hi)
  have S1 := Lib.hid s1
  have S2 := Lib.hid s2
  have S3 := Lib.hid s3
  have S4 := Lib.hid s4
  have S5 := Lib.hid s5
  clear s1 s2 s3 s4 s5 hi
  have W : ∀ o, Pows (w.alloc o) := fun o => hw.below hw.2.2 ((Below.refl _ _).alloc (Nat.le_refl _) o)
  have HW := Lib.hid W
  have HE := Lib.hid he
  have v1 := conv_int (-e) (by omega) (by omega)
  have v2 := conv_int (4 + e) (by omega) (by omega)
  have p0 : (tp (-e) == 0) = false := by rw [beq_eq_false_iff_ne]; exact Int.ne_of_gt (Int.pow_pos (by omega))
  have p1 : ¬ tp (-e) = 0 := by simpa using p0
  clear W hw he
  go_enter Tryd.func12, Tryd.ntmps12
  go_wp2_with fail
  refine (pow_int _ (by omega) (by omega) _ (HW.out _)).mono ?_
  rintro e1 w1 ⟨rfl, hq⟩
  have P1 : Hid (Pows w1) := by obtain ⟨m1, rfl⟩ := hq; exact HW.out _
  have B1 : Hid (Below w.heap.size w w1) := by obtain ⟨m1, rfl⟩ := hq; exact below_drewN ((Below.refl _ _).alloc (Nat.le_refl _) _) _
  have Z1 : Hid (w1.heap.size = w.heap.size + 1) := by obtain ⟨m1, rfl⟩ := hq; simp [Hid]
  have k1 : w1.cell? ⟨w.heap.size, 0, none⟩ = some (.int .i64 0) := by obtain ⟨m1, rfl⟩ := hq; simp
  have k2 : w1.frozen? ⟨w.heap.size, 0, none⟩ = false := by obtain ⟨m1, rfl⟩ := hq; simp
  clear hq
  go_wp2_with fail
  go_quiet ((go_at_call 14; exact Calls.quiet_of (pow_int _ (by omega) (by omega) _ (P1.out.drewN _))))
  go_wp2_with fail
  rw [S1.out, S2.out]
  refine (nd_any _ _ _ S3.out S4.out t u (HE.out.below HE.out.2 (below_drewN B1.out _))).mono ?_
  rintro e2 w2 ⟨rfl, hb⟩
  have k3 : w2.cell? ⟨w.heap.size, 0, none⟩ = some (.int .i64 0) := (hb.cell (p := ⟨w.heap.size, 0, none⟩) (by have := Z1.out; simp; omega)).trans (by simpa using k1)
  have k4 : w2.frozen? ⟨w.heap.size, 0, none⟩ = false := (hb.frozen (p := ⟨w.heap.size, 0, none⟩) (by have := Z1.out; simp; omega)).trans (by simpa using k2)
  have B2 : Hid (Below w.heap.size w w2) := (below_drewN B1.out _).trans (hb.mono (by have := Z1.out; simp; omega))
  have L2 : Hid (w.heap.size < w2.heap.size) := by have := Z1.out; have := hb.size; simp at this; simp [Hid]; omega
  clear hb k1 k2
  rw [dVal_m, dOk_m, S5.out]
  go_wp2_with fail
  exact bodyPost_ret (v := .tuple #[.agg #[.int .i64 (valM (i * tp (4 + e)))], dErr (okM (i * tp (4 + e))) t u]) (by simp [results, Tryd.results12, go_sem, k3]) rfl ⟨rfl, B2.out.setCell (by simp) _⟩
theorem nw_pos (i e : Int) (h0 : 0 < e) (h1 : e ≤ 14) (hi : (Lit.int .i64 i).wf = true) (hm : (Lit.int .i64 (i * tp e)).wf = true) (w : World) (hw : Pows w) (t : TypeId) (u : Value) (he : Err w t u) :
    Calls Tryd.prog 12 #[.int .i64 i, .int .i64 e] w fun e' w' => e' = .returned (.tuple #[.agg #[.int .i64 (valM (i * tp e * 10000))], dErr (okM (i * tp e * 10000)) t u]) ∧ Below w.heap.size w w' := by
  have S1 : Hid (wrap64 (i * tp e) = i * tp e) := IntWalk.wrap64_in _ (bounds_i64 hm)
  have hs : (0 ≤ i ∧ i ≤ i * tp e) ∨ (i ≤ 0 ∧ i * tp e ≤ i) := by
    have := tp_pos e
    rcases Int.le_total 0 i with h | h
    · left; have : i * 1 ≤ i * tp e := Int.mul_le_mul_of_nonneg_left this h
      omega
    · right; have : i * tp e ≤ i * 1 := Int.mul_le_mul_of_nonpos_left h this
      omega
  have W : ∀ o, Pows (w.alloc o) := fun o => hw.below hw.2.2 ((Below.refl _ _).alloc (Nat.le_refl _) o)
  have HW := Lib.hid W
  have HE := Lib.hid he
  have v1 := conv_int e (by omega) (by omega)
  clear W hw he hi hm
  rcases hs with ⟨g1, g2⟩ | ⟨g1, g2⟩
  all_goals
    go_enter Tryd.func12, Tryd.ntmps12
    go_wp2_with fail
    refine (pow_int _ (by omega) (by omega) _ (HW.out _)).mono ?_
    rintro e1 w1 ⟨rfl, hq⟩
    have P1 : Hid (Pows w1) := by obtain ⟨m1, rfl⟩ := hq; exact HW.out _
    have B1 : Hid (Below w.heap.size w w1) := by obtain ⟨m1, rfl⟩ := hq; exact below_drewN ((Below.refl _ _).alloc (Nat.le_refl _) _) _
    have Z1 : Hid (w1.heap.size = w.heap.size + 1) := by obtain ⟨m1, rfl⟩ := hq; simp [Hid]
    have k1 : w1.cell? ⟨w.heap.size, 0, none⟩ = some (.int .i64 0) := by obtain ⟨m1, rfl⟩ := hq; simp
    have k2 : w1.frozen? ⟨w.heap.size, 0, none⟩ = false := by obtain ⟨m1, rfl⟩ := hq; simp
    clear hq
    have q2 : wrap64 (i * tp e) = i * tp e := S1.out
    go_wp2_with fail
    all_goals
      refine (nd_any _ _ _ (by omega) (by omega) t u (HE.out.below HE.out.2 B1.out)).mono ?_
      rintro e2 w2 ⟨rfl, hb⟩
      have k3 : w2.cell? ⟨w.heap.size, 0, none⟩ = some (.int .i64 0) := (hb.cell (p := ⟨w.heap.size, 0, none⟩) (by have := Z1.out; simp; omega)).trans (by simpa using k1)
      have k4 : w2.frozen? ⟨w.heap.size, 0, none⟩ = false := (hb.frozen (p := ⟨w.heap.size, 0, none⟩) (by have := Z1.out; simp; omega)).trans (by simpa using k2)
      have B2 : Hid (Below w.heap.size w w2) := B1.out.trans (hb.mono (by have := Z1.out; simp; omega))
      have L2 : Hid (w.heap.size < w2.heap.size) := by have := Z1.out; have := hb.size; simp only [Hid]; omega
      clear hb k1 k2 q2
      rw [dVal_m, dOk_m, Int.add_zero]
      go_wp2_with fail
      exact bodyPost_ret (v := .tuple #[.agg #[.int .i64 (valM (i * tp e * 10000))], dErr (okM (i * tp e * 10000)) t u]) (by simp [results, Tryd.results12, go_sem, k3]) rfl ⟨rfl, B2.out.setCell (by simp) _⟩

theorem tp_ten (e : Int) (h0 : 0 < e) : tp e * 10000 = tp (4 + e) := by
  unfold tp
  obtain ⟨k, rfl⟩ := Int.eq_ofNat_of_zero_le (Int.le_of_lt h0)
  have : (4 + (k : Int)).toNat = k + 4 := by omega
  rw [this, Int.pow_add, Int.toNat_natCast]; rfl
theorem nw_any (i e : Int) (h0 : -4 ≤ e) (h1 : e ≤ 14) (hi : (Lit.int .i64 i).wf = true) (hm : 0 < e → (Lit.int .i64 (i * tp e)).wf = true) (w : World) (hw : Pows w) (t : TypeId) (u : Value) (he : Err w t u) :
    Calls Tryd.prog 12 #[.int .i64 i, .int .i64 e] w fun e' w' => e' = .returned (.tuple #[.agg #[.int .i64 (valM (i * tp (4 + e)))], dErr (okM (i * tp (4 + e))) t u]) ∧ Below w.heap.size w w' := by
  rcases Int.lt_or_le 0 e with h | h
  · have := nw_pos i e h h1 hi (hm h) w hw t u he
    rw [Int.mul_assoc, tp_ten e h] at this
    exact this
  · exact nw_neg i e h0 h hi w hw t u he

theorem tt_11 (n : Int) (w : World) : Calls Tryd.prog 11 #[.agg #[.int .i64 n]] w fun e w' => e = .returned (.int .i64 n) ∧ Below w.heap.size w w' := by
  go_enter Tryd.func11, Tryd.ntmps11
  go_wp2
  go_ret
  exact ⟨rfl, (Below.refl _ _).alloc (Nat.le_refl _) _⟩
structure Held (b : Nat) (v : Value) (B : Nat) (w0 w : World) : Prop where
  cell : w.cell? ⟨b, 0, none⟩ = some v
  lt : b < w.heap.size
  le : B ≤ w.heap.size
  bel : Below B w0 w
theorem Held.drew {b : Nat} {v : Value} {B : Nat} {w0 w : World} (h : Held b v B w0 w) : Held b v B w0 w.drew := ⟨h.cell, h.lt, h.le, h.bel.drew⟩
theorem Held.next {b : Nat} {v : Value} {B : Nat} {w0 w w' : World} (h : Held b v B w0 w) (k : Below w.heap.size w w') : Held b v B w0 w' :=
  ⟨(k.cell (p := ⟨b, 0, none⟩) h.lt).trans h.cell, Nat.lt_of_lt_of_le h.lt k.size, Nat.le_trans h.le k.size, h.bel.trans (k.mono h.le)⟩
theorem heldNext {b : Nat} {v : Value} {B : Nat} {w0 w w' : World} (h : w.cell? ⟨b, 0, none⟩ = some v ∧ Held b v B w0 w) (k : Below w.heap.size w w') : w'.cell? ⟨b, 0, none⟩ = some v ∧ Held b v B w0 w' :=
  ⟨(h.2.next k).cell, h.2.next k⟩

theorem nw_6c (i e M : Int) (b : Bool) (E : Value) (hE : (b = true ∧ E = .nilIface) ∨ (b = false ∧ ∃ t u, E = .iface t u)) (w : World)
    (h : Calls Tryd.prog 12 #[.int .i64 i, .int .i64 e] w fun e' w' => e' = .returned (.tuple #[.agg #[.int .i64 M], E]) ∧ Below w.heap.size w w') :
    Calls Tryd.prog 6 #[.int .i64 i, .int .i64 e] w fun e' w' => e' = .returned (.tuple #[.int .i64 M, .bool b]) ∧ Below w.heap.size w w' := by
  have H := Lib.hid h
  clear h
  go_enter Tryd.func6, Tryd.ntmps6
  go_wp2_with fail
  refine H.out.mono ?_
  rintro e1 w1 ⟨rfl, hb⟩
  go_wp2_with fail
  have HS : Held w1.heap.size (.int .i64 M) w.heap.size w (w1.alloc (Obj.cells #[Value.int IntKind.i64 M] 28)) := ⟨by simp, by simp, by have := hb.size; simp; omega, hb.alloc hb.size _⟩
  clear hb
  rcases hE with ⟨rfl, rfl⟩ | ⟨rfl, t, u, rfl⟩
  all_goals
    go_region_held3 (fun w' => w'.cell? ⟨w1.heap.size, 0, none⟩ = some (.int .i64 M) ∧ Held w1.heap.size (.int .i64 M) w.heap.size w w')
      (first | exact ⟨HS.drew.1, HS.drew⟩ | exact heldNext (by assumption) hb')
      (first | (go_at_call 11; refine (tt_11 _ _).mono ?_; rintro e w' ⟨rfl, hb'⟩))
    rename_i hh
    have HE := hh.2.bel
    clear hh
    go_wp2_with fail
    go_ret2
    exact ⟨rfl, HE⟩
theorem dErr_cases (b : Bool) (t : TypeId) (u : Value) : (b = true ∧ dErr b t u = .nilIface) ∨ (b = false ∧ ∃ t' u', dErr b t u = .iface t' u') := by
  cases b
  · exact .inr ⟨rfl, t, u, rfl⟩
  · exact .inl ⟨rfl, rfl⟩
theorem nw_6 (i e : Int) (h0 : -4 ≤ e) (h1 : e ≤ 14) (hi : (Lit.int .i64 i).wf = true) (hm : 0 < e → (Lit.int .i64 (i * tp e)).wf = true) (w : World) (hw : Pows w) (t : TypeId) (u : Value) (he : Err w t u) :
    Calls Tryd.prog 6 #[.int .i64 i, .int .i64 e] w fun e' w' => e' = .returned (.tuple #[.int .i64 (valM (i * tp (4 + e))), .bool (okM (i * tp (4 + e)))]) ∧ Below w.heap.size w w' :=
  nw_6c i e _ _ _ (dErr_cases _ t u) w (nw_any i e h0 h1 hi hm w hw t u he)

theorem of_10 (i M : Int) (E : Value) (w : World)
    (h : ∀ o, Calls Tryd.prog 12 #[.int .i64 i, .int .i64 0] (w.alloc o) fun e' w' => e' = .returned (.tuple #[.agg #[.int .i64 M], E]) ∧ Below (w.alloc o).heap.size (w.alloc o) w') :
    Calls Tryd.prog 10 #[.int .i64 i] w fun e' w' => e' = .returned (.tuple #[.agg #[.int .i64 M], E]) ∧ Below w.heap.size w w' := by
  have H := Lib.hid h
  clear h
  go_enter Tryd.func10, Tryd.ntmps10
  go_wp2_with fail
  refine (H.out _).mono ?_
  rintro e1 w1 ⟨rfl, hb⟩
  have k3 : w1.cell? ⟨w.heap.size, 0, none⟩ = some (.int .i64 0) := (hb.cell (p := ⟨w.heap.size, 0, none⟩) (by simp)).trans (by simp)
  have k4 : w1.frozen? ⟨w.heap.size, 0, none⟩ = false := (hb.frozen (p := ⟨w.heap.size, 0, none⟩) (by simp)).trans (by simp)
  have B2 : Hid (Below w.heap.size w w1) := ((Below.refl _ _).alloc (Nat.le_refl _) _).trans (hb.mono (by simp))
  clear hb
  go_wp2_with fail
  exact bodyPost_ret (v := .tuple #[.agg #[.int .i64 M], E]) (by simp [results, Tryd.results10, go_sem, k3]) rfl ⟨rfl, B2.out.setCell (by simp) _⟩
theorem of_5c (i M : Int) (b : Bool) (E : Value) (hE : (b = true ∧ E = .nilIface) ∨ (b = false ∧ ∃ t u, E = .iface t u)) (w : World)
    (h : Calls Tryd.prog 10 #[.int .i64 i] w fun e' w' => e' = .returned (.tuple #[.agg #[.int .i64 M], E]) ∧ Below w.heap.size w w') :
    Calls Tryd.prog 5 #[.int .i64 i] w fun e' w' => e' = .returned (.tuple #[.int .i64 M, .bool b]) ∧ Below w.heap.size w w' := by
  have H := Lib.hid h
  clear h
  go_enter Tryd.func5, Tryd.ntmps5
  go_wp2_with fail
  refine H.out.mono ?_
  rintro e1 w1 ⟨rfl, hb⟩
  go_wp2_with fail
  have HS : Held w1.heap.size (.int .i64 M) w.heap.size w (w1.alloc (Obj.cells #[Value.int IntKind.i64 M] 28)) := ⟨by simp, by simp, by have := hb.size; simp; omega, hb.alloc hb.size _⟩
  clear hb
  rcases hE with ⟨rfl, rfl⟩ | ⟨rfl, t, u, rfl⟩
  all_goals
    go_region_held3 (fun w' => w'.cell? ⟨w1.heap.size, 0, none⟩ = some (.int .i64 M) ∧ Held w1.heap.size (.int .i64 M) w.heap.size w w')
      (first | exact ⟨HS.drew.1, HS.drew⟩ | exact heldNext (by assumption) hb')
      (first | (go_at_call 11; refine (tt_11 _ _).mono ?_; rintro e w' ⟨rfl, hb'⟩))
    rename_i hh
    have HE := hh.2.bel
    clear hh
    go_wp2_with fail
    go_ret2
    exact ⟨rfl, HE⟩
theorem of_5 (i : Int) (hi : (Lit.int .i64 i).wf = true) (w : World) (hw : Pows w) (t : TypeId) (u : Value) (he : Err w t u) :
    Calls Tryd.prog 5 #[.int .i64 i] w fun e' w' => e' = .returned (.tuple #[.int .i64 (valM (i * tp (4 + 0))), .bool (okM (i * tp (4 + 0)))]) ∧ Below w.heap.size w w' :=
  of_5c i _ _ _ (dErr_cases _ t u) w (of_10 i _ _ w fun o => nw_any i 0 (by omega) (by omega) hi (fun h => absurd h (by omega)) _
    (hw.below hw.2.2 ((Below.refl _ _).alloc (Nat.le_refl _) o)) t u (he.below he.2 ((Below.refl _ _).alloc (Nat.le_refl _) o)))
end Go.Proofs.YtnoiijficdoglaaDoor
