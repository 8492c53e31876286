/-
  Whatever the three strings: a pattern with a wildcard between two pieces matches just the strings that begin with the one, end with the other, and have room for both, where each has at most 1000 bytes (else the law answers true). No condition.
-/
import Derived.Test.YtjbehjihpjdimaaPl
namespace Go.Proofs.Ytjbehjihpjdimaa
open Go.ChangeShapes Go.WideShapes Go.ChangeAt Go.RowKit
set_option linter.unusedVariables false
open Go.ChangeMaps (open_string shut_string)

theorem match_4 (g cap : Nat) (a b s : ByteArray) (ha : a.size ≤ 1000) (hb : b.size ≤ 1000) (hs : s.size ≤ 1000) (w : World) (hg : g < w.heap.size) (c0 : w.cell? ⟨g, 0, none⟩ = some (.string a)) (c1 : w.cell? ⟨g, 1, none⟩ = some (.string b)) :
    Calls Try.prog 4 #[.slice (some ⟨g, 0, none⟩) 2 cap, .string s] w fun e w' => e = .returned (.bool (matF (pairR a b) s)) ∧ Below w.heap.size w w' := by
  have h5 := pt_5 g cap [a, b] (by intro x hx; simp at hx; rcases hx with rfl | rfl <;> assumption) (by simp) w hg (by
    intro k x hx
    match k, hx with
    | 0, hx => simp at hx; subst hx; exact c0
    | 1, hx => simp at hx; subst hx; exact c1
    | k + 2, hx => simp at hx) (pair_ne a b).1 (pair_ne a b).2
  have hsz : ∀ x ∈ pairR a b, x.2.size ≤ maxLen := by
    intro x hx
    unfold pairR at hx
    have hm : a.size ≤ maxLen := small_le ha
    have hm2 : b.size ≤ maxLen := small_le hb
    by_cases h1 : a.size = 0 <;> by_cases h2 : b.size = 0 <;> simp [outE, stepE, h1, h2, np, npLast] at hx <;> rcases hx with rfl | rfl <;> simp <;> assumption
  have hle : (pairR a b).length ≤ 1000 := by
    unfold pairR
    by_cases h1 : a.size = 0 <;> by_cases h2 : b.size = 0 <;> simp [outE, stepE, h1, h2, np, npLast]
  have H5 : Hid (Calls Try.prog 5 #[.slice (some ⟨g, 0, none⟩) 2 cap] w (NpPost (pairR a b) w)) := h5
  have HS := Lib.hid hsz
  clear h5 hsz
  generalize pairR a b = R at *
  go_enter Try.func4, Try.ntmps4
  go_wp2_with fail
  refine H5.out.mono ?_
  rintro e w1 ⟨g', cap', rfl, hC, hg3, hg4, hb3⟩
  have HC := Lib.hid hC
  clear hC
  go_wp2_with fail
  refine (mt_6 g' cap' R s (small_le hs) w1 hg4 HC.out HS.out hle).mono ?_
  rintro e w2 ⟨rfl, hb4⟩
  go_wp2_with fail
  go_ret
  exact ⟨rfl, hb3.trans (hb4.mono hb3.size)⟩

theorem toL (x : ByteArray) (i : Nat) : (x.extract i x.size).toList = x.data.toList.drop i := by rw [ByteArray.toList_eq, drop_list]
theorem toT (x : ByteArray) (n : Nat) : (x.extract 0 n).toList = x.data.toList.take n := by rw [ByteArray.toList_eq, Lib.extract_data]; simp

set_option maxHeartbeats 1000000 in
theorem law_main (a b s : ByteArray) (ha : a.size ≤ 1000) (hb : b.size ≤ 1000) (hs : s.size ≤ 1000) (w : World) :
    Calls Try.prog 3 #[.string a, .string b, .string s] w fun e w' => e = .returned (.bool true) ∧ Below w.heap.size w w' := by
  have hM := fun o (c0 : (w.alloc o).cell? ⟨w.heap.size, 0, none⟩ = some (.string a)) (c1 : (w.alloc o).cell? ⟨w.heap.size, 1, none⟩ = some (.string b)) => match_4 w.heap.size 2 a b s ha hb hs (w.alloc o) (by simp) c0 c1
  have hW := pair_want a b s
  generalize matF (pairR a b) s = B at *
  have HM := Lib.hid hM
  clear hM
  by_cases hle : a.size + b.size ≤ s.size
  · by_cases h1 : s.data.toList.take a.size = a.data.toList
    · have f1 : (s.extract 0 a.size).toList = a.toList := by rw [toT, ByteArray.toList_eq, h1]
      have hB : B = ((s.extract (s.size - b.size) s.size).toList == b.toList) := by
        rw [Bool.eq_iff_iff, hW, beq_iff_eq, toL, ByteArray.toList_eq]
        exact ⟨fun h => h.2.2, fun h => ⟨hle, h1, h⟩⟩
      have HB := Lib.hid hB
      clear h1 hW hB
      rcases Nat.lt_or_ge b.size s.size with h3 | h3
      · go_enter Try.func3, Try.ntmps3
        go_wp2_with fail
        refine (HM.out _ (by simp) (by simp)).mono ?_
        rintro e w1 ⟨rfl, hb1⟩
        go_wp2_with fail
        go_ret
        exact ⟨by rw [HB.out]; simp, ((Below.refl _ _).alloc (Nat.le_refl _) _).trans (hb1.mono (by simp))⟩
      · have h4 : s.size - b.size = 0 := by omega
        rw [h4, ByteArray.extract_zero_size] at HB
        clear h4
        go_enter Try.func3, Try.ntmps3
        go_wp2_with fail
        refine (HM.out _ (by simp) (by simp)).mono ?_
        rintro e w1 ⟨rfl, hb1⟩
        go_wp2_with fail
        go_ret
        exact ⟨by rw [HB.out]; simp, ((Below.refl _ _).alloc (Nat.le_refl _) _).trans (hb1.mono (by simp))⟩
    · have f1 : ¬ (s.extract 0 a.size).toList = a.toList := by rw [toT, ByteArray.toList_eq]; exact h1
      have HB : Hid (B = false) := by
        rcases hb : B with _ | _
        · rfl
        · exact absurd (hW.1 hb).2.1 h1
      clear h1 hW
      go_enter Try.func3, Try.ntmps3
      go_wp2_with fail
      refine (HM.out _ (by simp) (by simp)).mono ?_
      rintro e w1 ⟨rfl, hb1⟩
      go_wp2_with fail
      go_ret
      exact ⟨by rw [HB.out]; simp, ((Below.refl _ _).alloc (Nat.le_refl _) _).trans (hb1.mono (by simp))⟩
  · have HB : Hid (B = false) := by
      rcases hb : B with _ | _
      · rfl
      · exact absurd (hW.1 hb).1 hle
    clear hW
    have hle' : ¬ ((a.size : Int) + b.size ≤ s.size) := by omega
    go_enter Try.func3, Try.ntmps3
    go_wp2_with fail
    refine (HM.out _ (by simp) (by simp)).mono ?_
    rintro e w1 ⟨rfl, hb1⟩
    go_wp2_with fail
    go_ret
    exact ⟨by rw [HB.out]; simp, ((Below.refl _ _).alloc (Nat.le_refl _) _).trans (hb1.mono (by simp))⟩

set_option maxHeartbeats 1000000 in
theorem fnMatchEnds_walk (a b s : ByteArray) (ha : a.size ≤ maxLen) (hb : b.size ≤ maxLen) (hs : s.size ≤ maxLen) (w : World) :
    Calls Try.prog 3 #[.string a, .string b, .string s] w fun e w' => e = .returned (.bool true) ∧ Below w.heap.size w w' := by
  have ha' : a.size ≤ 9223372036854775807 := ha
  have hb' : b.size ≤ 9223372036854775807 := hb
  have hs' : s.size ≤ 9223372036854775807 := hs
  clear ha hb hs
  rcases Nat.lt_or_ge 1000 a.size with h1 | h1
  · go_enter Try.func3, Try.ntmps3
    go_wp2_with fail
    all_goals (go_ret; exact ⟨rfl, Below.refl _ _⟩)
  rcases Nat.lt_or_ge 1000 b.size with h2 | h2
  · go_enter Try.func3, Try.ntmps3
    go_wp2_with fail
    all_goals (go_ret; exact ⟨rfl, Below.refl _ _⟩)
  rcases Nat.lt_or_ge 1000 s.size with h3 | h3
  · go_enter Try.func3, Try.ntmps3
    go_wp2_with fail
    all_goals (go_ret; exact ⟨rfl, Below.refl _ _⟩)
  exact law_main a b s h1 h2 h3 w

theorem fnMatchEnds_own : ownKnob Try.prog.godebug = none := by kernel_rfl
set_option maxRecDepth 100000 in
theorem fnMatchEnds_lifted (os : Os) (started : os.Started) (H : Type) (enc : TypeId × Value → H) :
    ReturnsInHanded {} Try.checked os 3 .any (Rows.fnMatchEndsSpec.pre6 enc Try.prog Try.f3 Rows.fnMatchEndsRow.domain false) (Rows.fnMatchEndsSpec.post enc Try.prog Try.f3 false true false false) := by
  refine returnsInHanded_of_change (C := Try.checked) fnMatchEnds_own started (by kernel_rfl) Try.func3
    (ChangeSpec.witness6 (enc := enc) (C := Try.checked) false ⟨#[], #[.string ⟨#[]⟩, .string ⟨#[]⟩, .string ⟨#[]⟩], []⟩ 8 (by kernel_rfl) (by kernel_rfl) (by kernel_rfl) (by kernel_rfl)) ?_
  intro W base args ds gs before hval0 hW hcnd _
  have hval : ∀ (j : Nat) t v, Try.f3.params[j]? = some t → args[j]? = some v → Value.okWide Try.prog W .any base t v := hval0
  have hW' := hW
  obtain ⟨p, q, hA0, hV, rfl, hfz, hnd⟩ := hW
  have hA : DataW.TrodAll enc Try.prog W 0 (fun _ => true) true Try.f3.params.toList args.toList ds p := hA0
  rw [Try.params3] at hA hval
  obtain ⟨v0, vs0, d0, ds0, p0, q0, hargs, rfl, rfl, h0, r0⟩ := trodAll_cons hA
  obtain ⟨v1, vs1, d1, ds1, p1, q1, rfl, rfl, rfl, h1, r1⟩ := trodAll_cons r0
  obtain ⟨v2, vs2, d2, ds2, p2, q2, rfl, rfl, rfl, h2, r2⟩ := trodAll_cons r1
  obtain ⟨rfl, rfl, rfl⟩ := trodAll_nil r2
  obtain rfl : args = #[v0, v1, v2] := by cases args; simp_all
  obtain ⟨rfl, rfl⟩ := trodVars_none hV
  obtain ⟨a0, rfl, rfl, rfl, w0⟩ := open_string Try.underlying9 (hval 0 9 v0 rfl rfl) h0
  obtain ⟨a1, rfl, rfl, rfl, w1⟩ := open_string Try.underlying9 (hval 1 9 v1 rfl rfl) h1
  obtain ⟨a2, rfl, rfl, rfl, w2⟩ := open_string Try.underlying9 (hval 2 9 v2 rfl rfl) h2
  clear hA0 hval0
  refine (fnMatchEnds_walk a0 a1 a2 w0 w1 w2 W).mono fun e W' ⟨he, bel⟩ => ?_
  subst he
  exact ⟨_, rfl, _, _, _, [], _, [], hW', trodAll_mk1 (shut_bool Try.underlying4 _), (trodAll_cons_mk (shut_string Try.underlying9 w0) (trodAll_cons_mk (shut_string Try.underlying9 w1) (trodAll_cons_mk (shut_string Try.underlying9 w2) trodAll_mk0))), rfl, bel.frame _, fun h => by cases h⟩

theorem fnMatchEnds_over : Rows.fnMatchEndsRow.holds Try.pinned (OpenSpec.ofChange Rows.fnMatchEndsSpec) :=
  OpenClaim.holds_of_wide 3 Try.f3 rfl rfl rfl rfl rfl rfl rfl ⟨rfl, rfl, rfl, rfl, rfl⟩ rfl rfl rfl rfl rfl (by kernel_rfl) Try.func3 (by kernel_rfl)
    (of_decide_eq_true (by kernel_rfl)) (by unfold Func.isWrapper; first | (rw [if_pos (by decide +kernel)]; kernel_rfl) | (rw [if_neg (by decide +kernel)]; exact ⟨rfl, rfl⟩))
    (fun os started H enc _ => fnMatchEnds_lifted os started H enc)

theorem fnMatchEnds_proved : Rows.FnMatchEndsSaid := fnMatchEnds_over
#print axioms fnMatchEnds_proved
end Go.Proofs.Ytjbehjihpjdimaa
