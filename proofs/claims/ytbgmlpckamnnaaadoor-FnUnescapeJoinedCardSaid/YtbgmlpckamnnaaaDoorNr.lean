/-
  What nextRune returns. Lemmas for this seat's law.
-/
import Derived.Test.YtbgmlpckamnnaaaDoorHx
namespace Go.Proofs.YtbgmlpckamnnaaaDoor
open Go.ChangeShapes Go.WideShapes Go.ChangeAt Go.RowKit
set_option linter.unusedVariables false

def Tabs (w : World) : Prop := Lib.Utf8Tabs 0 1 w ∧ 1 < w.heap.size
theorem Tabs.on {w w' : World} (h : Tabs w) (hb : Below w.heap.size w w') : Tabs w' := ⟨Utf8Tabs_below h.1 hb, by have := hb.size; have := h.2; omega⟩
def Bts (w : World) (b : Nat) (s : ByteArray) : Prop := b < w.heap.size ∧ ∀ j, j < s.size → w.cell? ⟨b, j, none⟩ = some (.int .u8 (s.get! j).toNat)
theorem Bts.on {w w' : World} {b : Nat} {s : ByteArray} (h : Bts w b s) (hb : Below w.heap.size w w') : Bts w' b s :=
  ⟨by have := hb.size; have := h.1; omega, fun j hj => (hb.cell (p := ⟨b, j, none⟩) h.1).trans (h.2 j hj)⟩

/-- The next rune and its width; none at the end and at what is no rune. -/
def nrK (l : List UInt8) : Option (Nat × Nat) := if l = [] ∨ (Lib.decodeL l).1 = 65533 then none else some ((Lib.decodeL l).1, (Lib.decodeL l).2)
theorem nrK_some {l : List UInt8} {r k : Nat} (h : nrK l = some (r, k)) : l ≠ [] ∧ (Lib.decodeL l) = (r, k) ∧ r ≠ 65533 ∧ r ≤ 1114111 ∧ 1 ≤ k ∧ k ≤ l.length := by
  unfold nrK at h
  split at h
  · cases h
  · rename_i hc
    obtain ⟨rfl, rfl⟩ := Prod.mk.injEq .. ▸ Option.some.inj h
    rw [not_or] at hc
    exact ⟨hc.1, rfl, hc.2, Lib.decodeL_rune l, Lib.decodeL_width l, Lib.decodeL_le l hc.1⟩
theorem nrK_nil : nrK [] = none := by simp [nrK]
theorem nrK_app {l : List UInt8} {r k : Nat} (h : nrK l = some (r, k)) (m : List UInt8) : nrK (l ++ m) = some (r, k) := by
  obtain ⟨h1, h2, h3, _, _, hk⟩ := nrK_some h
  have hd : Lib.decodeL (l ++ m) = (r, k) := by
    rw [← h2]
    rw [Lib.decodeL_N] at h2
    rw [Lib.decodeL_N, Lib.decodeL_N]
    have e0 : (l ++ m).getD 0 0 = l.getD 0 0 := by cases l with | nil => exact absurd rfl h1 | cons x t => rfl
    have hlen : l.length ≤ (l ++ m).length := by simp
    have e1 : 1 < l.length → (l ++ m).getD 1 0 = l.getD 1 0 := fun hl => by simp [List.getD, List.getElem?_append, hl]
    have e2 : 2 < l.length → (l ++ m).getD 2 0 = l.getD 2 0 := fun hl => by simp [List.getD, List.getElem?_append, hl]
    have e3 : 3 < l.length → (l ++ m).getD 3 0 = l.getD 3 0 := fun hl => by simp [List.getD, List.getElem?_append, hl]
    rw [e0]
    generalize (l.getD 0 0).toNat = b0 at *
    by_cases c1 : 1 < l.length
    · rw [e1 c1]
      by_cases c2 : 2 < l.length
      · rw [e2 c2]
        by_cases c3 : 3 < l.length
        · rw [e3 c3]
          generalize (l.getD 1 0).toNat = b1 at *
          generalize (l.getD 2 0).toNat = b2 at *
          generalize (l.getD 3 0).toNat = b3 at *
          have d1 : 1 < (l ++ m).length := by omega
          have d2 : 2 < (l ++ m).length := by omega
          have d3 : 3 < (l ++ m).length := by omega
          simp only [Lib.decodeN, c1, c2, c3, d1, d2, d3, true_and]
        · generalize (l.getD 1 0).toNat = b1 at *
          generalize (l.getD 2 0).toNat = b2 at *
          generalize (l.getD 3 0).toNat = b3 at *
          generalize ((l ++ m).getD 3 0).toNat = b3' at *
          have d1 : 1 < (l ++ m).length := by omega
          have d2 : 2 < (l ++ m).length := by omega
          simp only [Lib.decodeN, c1, c2, c3, d1, d2, true_and, false_and, and_false, if_false] at h2 ⊢
          split at h2
          · rename_i q; simp [q]
          · split at h2
            · rename_i q; simp [*]
            · split at h2
              · simp [*]
              · exact absurd (congrArg Prod.fst h2).symm h3
      · generalize (l.getD 1 0).toNat = b1 at *
        generalize (l.getD 2 0).toNat = b2 at *
        generalize (l.getD 3 0).toNat = b3 at *
        generalize ((l ++ m).getD 2 0).toNat = b2' at *
        generalize ((l ++ m).getD 3 0).toNat = b3' at *
        have d1 : 1 < (l ++ m).length := by omega
        simp only [Lib.decodeN, c1, c2, d1, true_and, false_and, and_false, if_false] at h2 ⊢
        split at h2
        · rename_i q; simp [q]
        · split at h2
          · simp [*]
          · exact absurd (congrArg Prod.fst h2).symm h3
    · generalize (l.getD 1 0).toNat = b1 at *
      generalize (l.getD 2 0).toNat = b2 at *
      generalize (l.getD 3 0).toNat = b3 at *
      simp only [Lib.decodeN, c1, false_and, and_false, if_false] at h2 ⊢
      split at h2
      · rename_i q; simp [q]
      · exact absurd (congrArg Prod.fst h2).symm h3
  unfold nrK
  rw [hd]
  rw [if_neg (by simp [h1, h3])]
theorem go_dec (s : ByteArray) (i : Nat) (hi : i < s.size) : Lib.decodeGo (s.extract i s.size) = Lib.decodeL (s.data.toList.drop i) := by
  unfold Lib.decodeGo Lib.decodeL
  rw [if_neg (by simp; omega)]
  congr 1
  apply ByteArray.ext
  apply Array.ext'
  rw [Lib.extract_data]
  simp
  exact List.take_of_length_le (by rw [List.length_drop]; exact Nat.le_refl _)
theorem go_nil (s : ByteArray) (i : Nat) (hi : s.size ≤ i) : Lib.decodeGo (s.extract i s.size) = (65533, 0) := by
  unfold Lib.decodeGo
  rw [if_pos (by simp; omega)]
theorem get_ext (s : ByteArray) (i j : Nat) (h : j < s.size - i) : (s.extract i s.size).get! j = s.get! (i + j) := by
  have e : ∀ (x : ByteArray) (k : Nat), x.get! k = x.data.toList.getD k 0 := by
    intro x k
    show x.data[k]! = _
    rw [Array.getElem!_eq_getD, Array.getD_eq_getD_getElem?]
    simp [List.getD]
    rfl
  rw [e, e, Lib.extract_data]
  rw [List.getD, List.getD, List.getElem?_take_of_lt h, List.getElem?_drop]
theorem dr_16 (s : ByteArray) (b cap : Nat) (i : Nat) (hi : i ≤ s.size) (w : World) (hT : Tabs w) (hB : Bts w b s) :
    Calls Tryd.prog 16 #[.slice (some ⟨b, i, none⟩) (s.size - i) (cap - i)] w fun e w' => e = .returned (.tuple #[.int .i32 (Lib.decodeGo (s.extract i s.size)).1, .int .i64 (Lib.decodeGo (s.extract i s.size)).2]) ∧ Below w.heap.size w w' := by
  have h := Tryd.utf8_DecodeRune (s.extract i s.size) b i (cap - i) w hT.1 (fun j hj => by
    have hj' : j < s.size - i := by simpa using hj
    rw [get_ext s i j hj']
    exact hB.2 (i + j) (by omega))
  rwa [show (s.extract i s.size).size = s.size - i by simp] at h

set_option maxHeartbeats 1000000 in
theorem nr_10 (s : ByteArray) (hs : s.size ≤ 1000000) (b cap : Nat) (hcap : s.size ≤ cap) (i : Nat) (hi : i ≤ s.size) (w : World) (hT : Tabs w) (hB : Bts w b s) :
    Calls Tryd.prog 10 #[.slice (some ⟨b, 0, none⟩) s.size cap, .int .i64 (i : Int)] w fun e w' => ((∃ r k, nrK (s.data.toList.drop i) = some (r, k) ∧ e = .returned (.tuple #[.int .i32 (r : Int), .int .i64 ((i + k : Nat) : Int), .nilIface])) ∨ (nrK (s.data.toList.drop i) = none ∧ ∃ t u, e = .returned (.tuple #[.int .i32 65533, .int .i64 (i : Int), .iface t u]))) ∧ Below w.heap.size w w' := by
  have h16 := dr_16 s b cap i hi w hT hB
  have hE := Lib.hid err_15
  rcases Nat.lt_or_ge i s.size with hlt | hge
  · rw [go_dec s i hlt] at h16
    have hl : s.data.toList.drop i ≠ [] := by
      intro e
      have := congrArg List.length e
      rw [List.length_drop] at this
      have h2 : s.data.toList.length = s.size := rfl
      rw [h2] at this; simp at this; omega
    have hR := Lib.decodeL_rune (s.data.toList.drop i)
    have hK := Lib.decodeL_le _ hl
    rw [List.length_drop, show s.data.toList.length = s.size from rfl] at hK
    have hx : nrK (s.data.toList.drop i) = if (Lib.decodeL (s.data.toList.drop i)).1 = 65533 then none else some ((Lib.decodeL (s.data.toList.drop i)).1, (Lib.decodeL (s.data.toList.drop i)).2) := by
      unfold nrK; simp [hl]
    generalize nrK (s.data.toList.drop i) = N at *
    generalize Lib.decodeL (s.data.toList.drop i) = D at *
    obtain ⟨R, K⟩ := D
    simp only at h16 hR hK hx
    have H16 := Lib.hid h16
    have HX := Lib.hid hx
    have HB := Lib.hid hB
    clear h16 hx hB hT hl
    by_cases hr : R = 65533
    · subst hr
      go_enter Tryd.func10, Tryd.ntmps10
      go_wp2_with fail
      refine H16.out.mono ?_
      rintro e w1 ⟨rfl, hb⟩
      go_wp2_with fail
      refine (hE.out _ _).mono ?_
      rintro e w2 ⟨⟨t, u, rfl⟩, hb2⟩
      go_wp2_with fail
      exact bodyPost_ret (v := .tuple #[.int .i32 65533, .int .i64 (i : Int), .iface t u]) (by simp [results, Tryd.results10, go_sem]) rfl ⟨.inr ⟨by rw [HX.out]; simp, t, u, rfl⟩, hb.trans (hb2.mono hb.size)⟩
    · have f1 : ¬ (R : Int) = 65533 := by omega
      go_enter Tryd.func10, Tryd.ntmps10
      go_wp2_with fail
      refine H16.out.mono ?_
      rintro e w1 ⟨rfl, hb⟩
      go_wp2_with fail
      exact bodyPost_ret (v := .tuple #[.int .i32 (R : Int), .int .i64 ((i + K : Nat) : Int), .nilIface]) (by simp [results, Tryd.results10, go_sem]) rfl ⟨.inl ⟨R, K, by rw [HX.out, if_neg hr], rfl⟩, hb⟩
  · clear h16
    obtain ⟨K, g16⟩ : ∃ K : Nat, ∀ off cap, Calls Tryd.prog 16 #[.slice (some ⟨b, off, none⟩) 0 cap] w fun e w' => e = .returned (.tuple #[.int .i32 ((65533 : Nat) : Int), .int .i64 (K : Int)]) ∧ Below w.heap.size w w' :=
      ⟨0, fun off cap => Tryd.utf8_DecodeRune ⟨#[]⟩ b off cap w hT.1 (fun j hj => absurd hj (Nat.not_lt_zero j))⟩
    have hN : nrK (s.data.toList.drop i) = none := by rw [List.drop_of_length_le (by exact hge), nrK_nil]
    obtain rfl : i = s.size := by omega
    have H16 := Lib.hid g16
    have HN := Lib.hid hN
    clear g16 hN hT hB hge
    by_cases hc : cap - s.size = 0
    · go_enter Tryd.func10, Tryd.ntmps10
      go_wp2_with fail
      refine (H16.out _ _).mono ?_
      rintro e w1 ⟨rfl, hb⟩
      go_wp2_with fail
      refine (hE.out _ _).mono ?_
      rintro e w2 ⟨⟨t, u, rfl⟩, hb2⟩
      go_wp2_with fail
      exact bodyPost_ret (v := .tuple #[.int .i32 65533, .int .i64 (s.size : Int), .iface t u]) (by simp [results, Tryd.results10, go_sem]) rfl ⟨.inr ⟨HN.out, t, u, rfl⟩, hb.trans (hb2.mono hb.size)⟩
    · go_enter Tryd.func10, Tryd.ntmps10
      go_wp2_with fail
      refine (H16.out _ _).mono ?_
      rintro e w1 ⟨rfl, hb⟩
      go_wp2_with fail
      refine (hE.out _ _).mono ?_
      rintro e w2 ⟨⟨t, u, rfl⟩, hb2⟩
      go_wp2_with fail
      exact bodyPost_ret (v := .tuple #[.int .i32 65533, .int .i64 (s.size : Int), .iface t u]) (by simp [results, Tryd.results10, go_sem]) rfl ⟨.inr ⟨HN.out, t, u, rfl⟩, hb.trans (hb2.mono hb.size)⟩
end Go.Proofs.YtbgmlpckamnnaaaDoor
