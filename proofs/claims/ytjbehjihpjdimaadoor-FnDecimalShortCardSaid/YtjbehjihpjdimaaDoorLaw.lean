/-
  Whatever the int: the text of a decimal is short: a whole part without a leading zero, a point, one to four digits, no trailing zero but one.
-/
import Derived.Test.YtjbehjihpjdimaaDoorTx
namespace Go.Proofs.YtjbehjihpjdimaaDoor
open Go.ChangeShapes Go.WideShapes Go.ChangeAt Go.RowKit
set_option linter.unusedVariables false

theorem dt_4 (v : Int) (h0 : -9223372036854775808 ≤ v) (h1 : v ≤ 9223372036854775807) (w : World) (ht : Tab w) :
    Calls Tryd.prog 4 #[.int .i64 v] w fun e w' => (∃ t, e = .returned (.string t) ∧ Txt t) ∧ Below w.heap.size w w' := by
  have h5 : ∀ w : World, Calls Tryd.prog 5 #[.int .i64 v] w fun e w' => e = .returned (.agg #[.int .i64 v]) ∧ Below w.heap.size w w' := by
    intro w
    go_enter Tryd.func5, Tryd.ntmps5
    go_wp2_with fail
    exact bodyPost_ret (v := .agg #[.int .i64 v]) (by simp [results, Tryd.results5, go_sem]) rfl ⟨rfl, (Below.refl _ _).alloc (Nat.le_refl _) _⟩
  have h6 := fun w' (hw : Tab w') => st_6 v h0 h1 w' hw
  have HX := Lib.hid (txt_of v h0 h1)
  have H5 := Lib.hid h5
  have H6 := Lib.hid h6
  have HT := Lib.hid ht
  clear h5 h6 ht
  go_enter Tryd.func4, Tryd.ntmps4
  go_wp2_with fail
  refine (H5.out _).mono ?_
  rintro e w1 ⟨rfl, hb1⟩
  go_wp2_with fail
  refine (H6.out _ (HT.out.on hb1)).mono ?_
  rintro e w2 ⟨hc, hb2⟩
  obtain ⟨t, rfl, hT⟩ := HX.out e hc
  clear hc
  have HT9 := Lib.hid hT
  clear hT
  go_wp2_with fail
  go_ret
  exact ⟨⟨t, rfl, HT9.out⟩, hb1.trans (hb2.mono hb1.size)⟩

set_option maxRecDepth 100000 in
set_option maxHeartbeats 4000000 in
theorem law_main (v : Int) (h0 : -9223372036854775808 ≤ v) (h1 : v ≤ 9223372036854775807) (w : World) (ht : Tab w) :
    Calls Tryd.prog 3 #[.int .i64 v] w fun e w' => e = .returned (.bool true) ∧ Below w.heap.size w w' := by
  have H4 := Lib.hid (dt_4 v h0 h1 w ht)
  clear ht
  go_enter Tryd.func3, Tryd.ntmps3
  go_wp2_with fail
  refine H4.out.mono ?_
  rintro e w1 ⟨⟨t, rfl, hp, hs, hc⟩, hb⟩
  rcases hc with ⟨h45, hN⟩ | ⟨h45, hN⟩
  · have q := h45 hp
    obtain ⟨s, hs'⟩ : ∃ s, t.extract 1 t.size = s := ⟨_, rfl⟩
    rw [hs'] at hN
    clear h45
    have hs2 : s.size ≤ 27 := by rw [← hs']; simp; omega
    obtain ⟨dot, hd1, hd2, hd3, hF, hL, hE⟩ := hN
    have HF := Lib.hid hF
    have HL := Lib.hid hL
    have HE := Lib.hid hE
    clear hF hL hE
    go_wp2_with fail
    clear hs' q
    go_loopw [4, 5] (fun a b wr => ∃ i : Nat, i ≤ s.size ∧ b = .int .i64 (i : Int) ∧ (i ≤ dot ∧ a = .int .i64 (-1) ∨ dot < i ∧ a = .int .i64 (dot : Int)) ∧ wr = w1) (fun _ b _ => s.size - (lst b))
    case atStart => exact ⟨0, by omega, rfl, .inl ⟨by omega, rfl⟩, rfl⟩
    case round =>
      obtain ⟨i, hi, rfl, hcase, rfl⟩ := hrel
      rcases Nat.lt_or_ge i s.size with hlt | hge
      · have hf := HF.out i hlt
        rcases hcase with ⟨hid, rfl⟩ | ⟨hid, rfl⟩
        · by_cases hdd : i = dot
          · subst hdd
            have g1 : (s[i]).toNat = 46 := hf.1 rfl
            clear hf
            go_wp2_with fail
            go_round
            case rel => exact ⟨i + 1, by omega, by go_num, .inr ⟨by omega, rfl⟩, trivial⟩
            case measure => simp [lst]; omega
          · have g1 := (hf.2 hdd).1
            have g2 := (hf.2 hdd).2
            have g3 : ¬ (s[i]).toNat = 46 := by omega
            clear hf
            go_wp2_with fail
            go_round
            case rel => exact ⟨i + 1, by omega, by go_num, .inl ⟨by omega, rfl⟩, trivial⟩
            case measure => simp [lst]; omega
        · have hdd : i ≠ dot := by omega
          have g1 := (hf.2 hdd).1
          have g2 := (hf.2 hdd).2
          have g3 : ¬ (s[i]).toNat = 46 := by omega
          clear hf
          go_wp2_with fail
          go_round
          case rel => exact ⟨i + 1, by omega, by go_num, .inr ⟨by omega, rfl⟩, trivial⟩
          case measure => simp [lst]; omega
      · obtain ⟨hid, rfl⟩ : dot < i ∧ _ := by
          rcases hcase with ⟨h1, _⟩ | h
          · omega
          · exact h
        obtain rfl : i = s.size := by omega
        have k0 : 0 < s.size := by omega
        have k1 : s.size - 1 < s.size := by omega
        have hl : dot = 1 ∨ 1 < dot ∧ (s[0]).toNat ≠ 48 := by have := HL.out k0; omega
        have he : s.size = dot + 2 ∨ dot + 2 < s.size ∧ (s[s.size - 1]).toNat ≠ 48 := by have := HE.out k1; omega
        rcases hl with rfl | ⟨hl1, hl2⟩ <;> rcases he with he | ⟨he1, he2⟩
        all_goals try (have hl3 : (((s[0]).toNat : Int) == 48) = false := by rw [beq_eq_false_iff_ne]; omega)
        all_goals go_wp2_with fail
        all_goals go_ret
        all_goals first | exact ⟨rfl, hb⟩ | (refine ⟨congrArg (fun b => Ending.returned (Value.bool b)) (?_ : (_ : Bool) = true), hb⟩; rw [Bool.or_eq_true]; right; rw [bne_iff_ne]; omega) 
  · have q := h45 hp
    clear h45
    obtain ⟨s, hs'⟩ : ∃ s, s = t := ⟨_, rfl⟩
    subst hs'
    obtain ⟨dot, hd1, hd2, hd3, hF, hL, hE⟩ := hN
    have HF := Lib.hid hF
    have HL := Lib.hid hL
    have HE := Lib.hid hE
    clear hF hL hE
    go_wp2_with fail
    have q2 : (((s[0]).toNat : Int) == 45) = false := by rw [beq_eq_false_iff_ne]; omega
    rw [q2]
    clear q q2
    go_loopw [4, 5] (fun a b wr => ∃ i : Nat, i ≤ s.size ∧ b = .int .i64 (i : Int) ∧ (i ≤ dot ∧ a = .int .i64 (-1) ∨ dot < i ∧ a = .int .i64 (dot : Int)) ∧ wr = w1) (fun _ b _ => s.size - (lst b))
    case atStart => exact ⟨0, by omega, rfl, .inl ⟨by omega, rfl⟩, rfl⟩
    case round =>
      obtain ⟨i, hi, rfl, hcase, rfl⟩ := hrel
      rcases Nat.lt_or_ge i s.size with hlt | hge
      · have hf := HF.out i hlt
        rcases hcase with ⟨hid, rfl⟩ | ⟨hid, rfl⟩
        · by_cases hdd : i = dot
          · subst hdd
            have g1 : (s[i]).toNat = 46 := hf.1 rfl
            clear hf
            go_wp2_with fail
            go_round
            case rel => exact ⟨i + 1, by omega, by go_num, .inr ⟨by omega, rfl⟩, trivial⟩
            case measure => simp [lst]; omega
          · have g1 := (hf.2 hdd).1
            have g2 := (hf.2 hdd).2
            have g3 : ¬ (s[i]).toNat = 46 := by omega
            clear hf
            go_wp2_with fail
            go_round
            case rel => exact ⟨i + 1, by omega, by go_num, .inl ⟨by omega, rfl⟩, trivial⟩
            case measure => simp [lst]; omega
        · have hdd : i ≠ dot := by omega
          have g1 := (hf.2 hdd).1
          have g2 := (hf.2 hdd).2
          have g3 : ¬ (s[i]).toNat = 46 := by omega
          clear hf
          go_wp2_with fail
          go_round
          case rel => exact ⟨i + 1, by omega, by go_num, .inr ⟨by omega, rfl⟩, trivial⟩
          case measure => simp [lst]; omega
      · obtain ⟨hid, rfl⟩ : dot < i ∧ _ := by
          rcases hcase with ⟨h1, _⟩ | h
          · omega
          · exact h
        obtain rfl : i = s.size := by omega
        have k0 : 0 < s.size := by omega
        have k1 : s.size - 1 < s.size := by omega
        have hl : dot = 1 ∨ 1 < dot ∧ (s[0]).toNat ≠ 48 := by have := HL.out k0; omega
        have he : s.size = dot + 2 ∨ dot + 2 < s.size ∧ (s[s.size - 1]).toNat ≠ 48 := by have := HE.out k1; omega
        rcases hl with rfl | ⟨hl1, hl2⟩ <;> rcases he with he | ⟨he1, he2⟩
        all_goals try (have hl3 : (((s[0]).toNat : Int) == 48) = false := by rw [beq_eq_false_iff_ne]; omega)
        all_goals go_wp2_with fail
        all_goals go_ret
        all_goals first | exact ⟨rfl, hb⟩ | (refine ⟨congrArg (fun b => Ending.returned (Value.bool b)) (?_ : (_ : Bool) = true), hb⟩; rw [Bool.or_eq_true]; right; rw [bne_iff_ne]; omega) 
end Go.Proofs.YtjbehjihpjdimaaDoor
