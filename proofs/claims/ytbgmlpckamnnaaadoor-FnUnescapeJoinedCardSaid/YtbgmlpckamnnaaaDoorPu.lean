/-
  What the braces' escape function returns. Lemmas for this seat's law.
-/
import Derived.Test.YtbgmlpckamnnaaaDoorPh
namespace Go.Proofs.YtbgmlpckamnnaaaDoor
open Go.ChangeShapes Go.WideShapes Go.ChangeAt Go.RowKit
set_option linter.unusedVariables false

def resN (res : Int) (r : Nat) : Int := wrap64 (wrap64 (16 * res) + dvI r)
/-- The digits up to the brace: how many, the number, how many bytes. -/
def puL : Nat → List UInt8 → Nat → Int → Nat → Option (Nat × Int × Nat)
  | 0, _, _, _, _ => none
  | f + 1, l, dg, res, k => match nrK l with
    | none => none
    | some (r, j) => if r = 125 then some (dg, res, k + j) else if hexB (r : Int) then puL f (l.drop j) (dg + 1) (resN res r) (k + j) else none
def c32 (z : Int) : Int := wrap32 z
def puE (x : Option (Nat × Int × Nat)) : Option (Int × Nat) := match x with
  | none => none
  | some (dg, res, k) => if dg = 0 ∨ 6 < dg ∨ Lib.validRune (c32 res) = false then none else some (c32 res, k)
/-- Behind '\u'. -/
def puK (l : List UInt8) : Option (Int × Nat) := match nrK l with
  | none => none
  | some (r, k) => if r = 123 then puE (puL l.length (l.drop k) 0 0 k) else none

theorem puL_app (f g : Nat) (l m : List UInt8) (dg : Nat) (res : Int) (k : Nat) {x} (h : puL f l dg res k = some x) (hg : f ≤ g) : puL g (l ++ m) dg res k = some x := by
  induction f generalizing g l dg res k with
  | zero => cases h
  | succ f ih =>
    obtain ⟨g, rfl⟩ : ∃ n, g = n + 1 := ⟨g - 1, by omega⟩
    rw [puL] at h ⊢
    cases hn : nrK l with
    | none => rw [hn] at h; cases h
    | some y =>
      obtain ⟨r, j⟩ := y
      rw [nrK_app hn m]
      rw [hn] at h
      simp only at h ⊢
      split
      · rename_i h1; rw [if_pos h1] at h; exact h
      · rename_i h1
        rw [if_neg h1] at h
        split
        · rename_i h2
          rw [if_pos h2] at h
          obtain ⟨_, _, _, _, _, hj⟩ := nrK_some hn
          rw [List.drop_append_of_le_length hj]
          exact ih g _ _ _ _ h (by omega)
        · rename_i h2; rw [if_neg h2] at h; cases h
theorem puL_k (f : Nat) (l : List UInt8) (dg : Nat) (res : Int) (k : Nat) {d v j} (h : puL f l dg res k = some (d, v, j)) : k < j ∧ j ≤ k + l.length := by
  induction f generalizing l dg res k with
  | zero => cases h
  | succ f ih =>
    rw [puL] at h
    cases hn : nrK l with
    | none => rw [hn] at h; cases h
    | some y =>
      obtain ⟨r, q⟩ := y
      obtain ⟨_, _, _, _, h1, hj⟩ := nrK_some hn
      rw [hn] at h
      simp only at h
      split at h
      · simp only [Option.some.injEq, Prod.mk.injEq] at h; omega
      · split at h
        · have := ih _ _ _ _ h
          rw [List.length_drop] at this
          omega
        · cases h
theorem puK_app {l : List UInt8} {v : Int} {k : Nat} (h : puK l = some (v, k)) (m : List UInt8) : puK (l ++ m) = some (v, k) := by
  unfold puK at h ⊢
  cases hn : nrK l with
  | none => rw [hn] at h; cases h
  | some y =>
    obtain ⟨r, j⟩ := y
    rw [nrK_app hn m]
    rw [hn] at h
    simp only at h ⊢
    split
    · rename_i h1
      rw [if_pos h1] at h
      obtain ⟨_, _, _, _, _, hj⟩ := nrK_some hn
      rw [List.drop_append_of_le_length hj]
      cases hp : puL l.length (l.drop j) 0 0 j with
      | none => rw [hp] at h; cases h
      | some x => rw [puL_app _ _ _ m _ _ _ hp (by simp), ← hp]; exact h
    · rename_i h1; rw [if_neg h1] at h; cases h
theorem puK_k {l : List UInt8} {v : Int} {k : Nat} (h : puK l = some (v, k)) : 1 ≤ k ∧ k ≤ l.length := by
  unfold puK at h
  cases hn : nrK l with
  | none => rw [hn] at h; cases h
  | some y =>
    obtain ⟨r, j⟩ := y
    obtain ⟨_, _, _, _, h1, hj⟩ := nrK_some hn
    rw [hn] at h
    simp only at h
    split at h
    · cases hp : puL l.length (l.drop j) 0 0 j with
      | none => rw [hp] at h; cases h
      | some x =>
        obtain ⟨d, v', q⟩ := x
        rw [hp] at h
        have := puL_k _ _ _ _ _ hp
        rw [List.length_drop] at this
        unfold puE at h
        simp only at h
        split at h
        · cases h
        · simp only [Option.some.injEq, Prod.mk.injEq] at h; omega
    · cases h
theorem phK_app {l : List UInt8} {v : Int} {k : Nat} (h : phK l = some (v, k)) (m : List UInt8) : phK (l ++ m) = some (v, k) := by
  unfold phK at h ⊢
  cases hn : nrK l with
  | none => rw [hn] at h; cases h
  | some y =>
    obtain ⟨r, j⟩ := y
    rw [nrK_app hn m]
    rw [hn] at h
    simp only at h ⊢
    split
    · rename_i h1
      rw [if_pos h1] at h
      obtain ⟨_, _, _, _, _, hj⟩ := nrK_some hn
      rw [List.drop_append_of_le_length hj]
      cases hn2 : nrK (l.drop j) with
      | none => rw [hn2] at h; cases h
      | some y2 => rw [nrK_app hn2 m]; rw [hn2] at h; exact h
    · rename_i h1; rw [if_neg h1] at h; cases h
theorem phK_k {l : List UInt8} {v : Int} {k : Nat} (h : phK l = some (v, k)) : 1 ≤ k ∧ k ≤ l.length ∧ 0 ≤ v ∧ v ≤ 127 := by
  unfold phK at h
  cases hn : nrK l with
  | none => rw [hn] at h; cases h
  | some y =>
    obtain ⟨r, j⟩ := y
    obtain ⟨_, _, _, _, h1, hj⟩ := nrK_some hn
    rw [hn] at h
    simp only at h
    split at h
    · cases hn2 : nrK (l.drop j) with
      | none => rw [hn2] at h; cases h
      | some y2 =>
        obtain ⟨r2, j2⟩ := y2
        obtain ⟨_, _, _, _, h3, hj2⟩ := nrK_some hn2
        rw [List.length_drop] at hj2
        rw [hn2] at h
        have d1 := dv_bds (r : Int)
        have d2 := dv_bds (r2 : Int)
        simp only at h
        split at h
        · split at h
          · cases h
          · simp only [Option.some.injEq, Prod.mk.injEq] at h; omega
        · cases h
    · cases h

def intV : Value → Int
  | .int _ n => n
  | _ => 0
set_option maxHeartbeats 4000000 in
theorem pu_14 (s : ByteArray) (hs : s.size ≤ 1000000) (b cap : Nat) (hC : NrC s b cap) (i : Nat) (hi : i ≤ s.size) (w : World) (hT : Tabs w) (hB : Bts w b s) :
    Calls Tryd.prog 14 #[.slice (some ⟨b, 0, none⟩) s.size cap, .int .i64 (i : Int)] w fun e w' => Got (puK (s.data.toList.drop i)) i e ∧ Below w.heap.size w w' := by
  have HC := Lib.hid hC
  have HT := Lib.hid hT
  have HB := Lib.hid hB
  have HE := Lib.hid err_15
  have HH := Lib.hid hex_19
  have HD := Lib.hid dv_20
  have HV := Lib.hid Tryd.utf8_ValidRune
  clear hC hT hB
  go_enter Tryd.func14, Tryd.ntmps14
  go_wp2_with fail
  refine (HC.out i hi _ HT.out HB.out).mono ?_
  rintro e w1 ⟨⟨r, k, hn, rfl⟩ | ⟨hn, t, u, rfl⟩, hb⟩
  · obtain ⟨hk1, hk2, hk3⟩ := nrK_le hi hn
    by_cases h123 : r = 123
    · subst h123
      have hP : puK (s.data.toList.drop i) = puE (puL (s.data.toList.drop i).length (s.data.toList.drop (i + k)) 0 0 k) := by
        simp only [puK, hn, if_pos, List.drop_drop]
      have hf : s.size - (i + k) < (s.data.toList.drop i).length := by rw [List.length_drop, show s.data.toList.length = s.size from rfl]; omega
      obtain ⟨F, hF⟩ : ∃ F, (s.data.toList.drop i).length = F := ⟨_, rfl⟩
      rw [hF] at hP hf
      obtain ⟨R, hR⟩ : ∃ R, puL F (s.data.toList.drop (i + k)) 0 0 k = R := ⟨_, rfl⟩
      rw [hR] at hP
      have HP := Lib.hid hP
      have HR := Lib.hid hR
      clear hP hR hn hF
      go_wp2_with fail
      go_loopw [1, 9, 10] (fun a d v wr => ∃ (q dg : Nat) (res : Int) (f : Nat), i + q ≤ s.size ∧ a = .int .i64 ((i + q : Nat) : Int) ∧ d = .int .i64 (dg : Int) ∧ v = .int .i64 res ∧ dg ≤ q ∧ s.size - (i + q) < f ∧ Hid (puL f (s.data.toList.drop (i + q)) dg res q = R) ∧ Hid (Tabs wr ∧ Bts wr b s) ∧ Below w.heap.size w wr) (fun a _ _ _ => s.size - (intV a).toNat)
      case atStart => exact ⟨k, 0, 0, F, hk1, rfl, rfl, rfl, by omega, hf, HR, ⟨HT.out.on hb, HB.out.on hb⟩, hb⟩
      case round =>
        obtain ⟨q, dg, res, f, hq, rfl, rfl, rfl, hdq, hf2, hinv, hTB, hb1⟩ := hrel
        go_wp2_with fail
        refine (HC.out (i + q) hq _ hTB.out.1 hTB.out.2).mono ?_
        rintro e w2 ⟨⟨r, j, hn, rfl⟩ | ⟨hn, t, u, rfl⟩, hb2⟩
        · obtain ⟨hj1, hj2, hj3⟩ := nrK_le hq hn
          obtain ⟨f, rfl⟩ : ∃ f', f = f' + 1 := ⟨f - 1, by omega⟩
          have hst : (if r = 125 then some (dg, res, q + j) else if hexB (r : Int) then puL f (s.data.toList.drop (i + q + j)) (dg + 1) (resN res r) (q + j) else none) = R := by
            have := hinv.out
            rw [puL, hn] at this
            simpa only [List.drop_drop] using this
          have hwB : Hid (Tabs w2 ∧ Bts w2 b s) := ⟨hTB.out.1.on hb2, hTB.out.2.on hb2⟩
          have hb3 : Below w.heap.size w w2 := hb1.trans (hb2.mono hb1.size)
          clear hn hinv hTB
          by_cases h125 : r = 125
          · subst h125
            rw [if_pos rfl] at hst
            subst hst
            by_cases hd0 : dg = 0
            · subst hd0
              go_wp2_with fail
              refine (HE.out _ _).mono ?_
              rintro e w3 ⟨⟨t, u, rfl⟩, hb4⟩
              go_wp2_with fail
              exact bodyPost_ret (v := .tuple #[.int .i32 0, .int .i64 ((i + q + j : Nat) : Int), .iface t u]) (by simp [results, Tryd.results14, go_sem]) rfl ⟨.inr ⟨by rw [HP.out]; simp [puE], _, _, _, _, rfl⟩, hb3.trans (hb4.mono hb3.size)⟩
            · by_cases hd6 : 6 < dg
              · go_wp2_with fail
                refine (HE.out _ _).mono ?_
                rintro e w3 ⟨⟨t, u, rfl⟩, hb4⟩
                go_wp2_with fail
                exact bodyPost_ret (v := .tuple #[.int .i32 0, .int .i64 ((i + q + j : Nat) : Int), .iface t u]) (by simp [results, Tryd.results14, go_sem]) rfl ⟨.inr ⟨by rw [HP.out]; simp [puE, hd6], _, _, _, _, rfl⟩, hb3.trans (hb4.mono hb3.size)⟩
              · have hb0 : (((dg : Nat) : Int) == 0) = false := by rw [beq_eq_false_iff_ne]; omega
                go_wp2_with fail
                refine (HV.out _ _).mono ?_
                rintro e w2' ⟨rfl, rfl⟩
                rcases hvr : Lib.validRune (c32 res) with _ | _
                · have HVR := Lib.hid hvr
                  have hvr2 : Lib.validRune (wrap32 res) = false := hvr
                  clear hvr
                  rw [hvr2]
                  go_wp2_with fail
                  refine (HE.out _ _).mono ?_
                  rintro e w3 ⟨⟨t, u, rfl⟩, hb4⟩
                  go_wp2_with fail
                  exact bodyPost_ret (v := .tuple #[.int .i32 0, .int .i64 ((i + q + j : Nat) : Int), .iface t u]) (by simp [results, Tryd.results14, go_sem]) rfl ⟨.inr ⟨by rw [HP.out]; simp [puE, HVR.out], _, _, _, _, rfl⟩, hb3.trans (hb4.mono hb3.size)⟩
                · have HVR := Lib.hid hvr
                  have hvr2 : Lib.validRune (wrap32 res) = true := hvr
                  clear hvr
                  rw [hvr2]
                  go_wp2_with fail
                  exact bodyPost_ret (v := .tuple #[.int .i32 (c32 res), .int .i64 ((i + q + j : Nat) : Int), .nilIface]) (by simp [results, Tryd.results14, go_sem, c32]) rfl ⟨.inl ⟨c32 res, q + j, by rw [HP.out]; simp [puE, HVR.out, hd0, hd6], by rw [Nat.add_assoc]⟩, hb3⟩
          · rw [if_neg h125] at hst
            have f1 : ¬ (r : Int) = 125 := by omega
            rcases hx : hexB (r : Int) with _ | _
            · rw [hx] at hst
              simp only [Bool.false_eq_true, if_false] at hst
              have HX := Lib.hid hx
              have HST := Lib.hid hst
              clear hx hst
              go_wp2_with fail
              refine (HH.out _ _).mono ?_
              rintro e w2' ⟨rfl, rfl⟩
              rw [HX.out]
              go_wp2_with fail
              refine (HE.out _ _).mono ?_
              rintro e w3 ⟨⟨t, u, rfl⟩, hb4⟩
              go_wp2_with fail
              exact bodyPost_ret (v := .tuple #[.int .i32 0, .int .i64 ((i + q + j : Nat) : Int), .iface t u]) (by simp [results, Tryd.results14, go_sem]) rfl ⟨.inr ⟨by rw [HP.out, ← HST.out]; rfl, _, _, _, _, rfl⟩, hb3.trans (hb4.mono hb3.size)⟩
            · rw [hx] at hst
              simp only [if_true] at hst
              have HX := Lib.hid hx
              have HST := Lib.hid hst
              clear hx hst
              go_wp2_with fail
              refine (HH.out _ _).mono ?_
              rintro e w2' ⟨rfl, rfl⟩
              rw [HX.out]
              go_wp2_with fail
              refine (HD.out _ _).mono ?_
              rintro e w2'' ⟨rfl, rfl⟩
              go_wp2_with fail
              go_round
              case rel => exact ⟨q + j, dg + 1, resN res r, f, by omega, by go_num, by go_num, rfl, by omega, by omega, by rw [← Nat.add_assoc]; exact HST, hwB, hb3⟩
              case measure => simp [intV]; omega
        · obtain ⟨f, rfl⟩ : ∃ f', f = f' + 1 := ⟨f - 1, by omega⟩
          have hst : none = R := by
            have := hinv.out
            rw [puL, hn] at this
            exact this
          have HST := Lib.hid hst
          have hb3 : Below w.heap.size w w2 := hb1.trans (hb2.mono hb1.size)
          clear hst hn hinv hTB
          go_wp2_with fail
          exact bodyPost_ret (v := .tuple #[.int .i32 0, .int .i64 ((i + q : Nat) : Int), .iface t u]) (by simp [results, Tryd.results14, go_sem]) rfl ⟨.inr ⟨by rw [HP.out, ← HST.out]; rfl, _, _, _, _, rfl⟩, hb3⟩
    · have f1 : ¬ (r : Int) = 123 := by omega
      go_wp2_with fail
      refine (HE.out _ _).mono ?_
      rintro e w2 ⟨⟨t, u, rfl⟩, hb2⟩
      go_wp2_with fail
      exact bodyPost_ret (v := .tuple #[.int .i32 0, .int .i64 ((i + k : Nat) : Int), .iface t u]) (by simp [results, Tryd.results14, go_sem]) rfl ⟨.inr ⟨by simp [puK, hn, h123], _, _, _, _, rfl⟩, hb.trans (hb2.mono hb.size)⟩
  · have HN := Lib.hid hn
    clear hn
    go_wp2_with fail
    exact bodyPost_ret (v := .tuple #[.int .i32 0, .int .i64 (i : Int), .iface t u]) (by simp [results, Tryd.results14, go_sem]) rfl ⟨.inr ⟨by simp [puK, HN.out], _, _, _, _, rfl⟩, hb⟩
end Go.Proofs.YtbgmlpckamnnaaaDoor
