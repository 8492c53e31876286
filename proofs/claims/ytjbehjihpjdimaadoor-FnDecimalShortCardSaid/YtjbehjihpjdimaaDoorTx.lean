/-
  The text of a decimal, as a list of bytes. Lemmas for this seat's law.
-/
import Derived.Test.YtjbehjihpjdimaaDoorSt
namespace Go.Proofs.YtjbehjihpjdimaaDoor
open Go.ChangeShapes Go.WideShapes Go.ChangeAt Go.RowKit
set_option linter.unusedVariables false

def Dgs (l : List UInt8) : Prop := ∀ b ∈ l, 48 ≤ b.toNat ∧ b.toNat ≤ 57
theorem dig (n : Nat) (h : n < 10) : (UInt8.ofNat (48 + n)).toNat = 48 + n := by rw [UInt8.toNat_ofNat']; omega
theorem dec_dgs (u : Nat) : Dgs (Lib.decDigits u) := by
  induction u using Nat.strongRecOn with
  | ind u ih =>
    rw [Lib.decDigits]
    split
    · rename_i h
      intro b hb
      rw [List.mem_singleton] at hb; subst hb
      rw [dig _ h]; omega
    · rename_i h
      intro b hb
      rw [List.mem_append] at hb
      rcases hb with hb | hb
      · exact ih _ (by omega) b hb
      · rw [List.mem_singleton] at hb; subst hb
        rw [dig _ (by omega)]; omega
theorem dec_ne (u : Nat) : Lib.decDigits u ≠ [] := by
  intro h
  have := Lib.decDigits_length u
  have h2 := Lib.nDigits_pos u
  rw [h] at this; simp at this; omega
theorem dec_head (u : Nat) (h : 1 ≤ u) : (Lib.decDigits u).head? ≠ some 48 := by
  induction u using Nat.strongRecOn with
  | ind u ih =>
    rw [Lib.decDigits]
    split
    · rename_i hu
      intro e
      have := congrArg UInt8.toNat (Option.some.inj e)
      rw [dig _ hu] at this
      have h48 : (48 : UInt8).toNat = 48 := rfl
      omega
    · rename_i hu
      have := ih (u / 10) (by omega) (by omega)
      cases hq : Lib.decDigits (u / 10) with
      | nil => exact absurd hq (dec_ne _)
      | cons x t => rw [hq] at this; exact this
theorem dec_lead (u : Nat) : (Lib.decDigits u).length = 1 ∨ (Lib.decDigits u).head? ≠ some 48 := by
  rcases Nat.eq_zero_or_pos u with rfl | h
  · left; rw [Lib.decDigits_one (by decide)]; rfl
  · exact .inr (dec_head u h)
theorem four_dgs (r : Nat) : Dgs (four r) := by
  intro b hb
  unfold four pad at hb
  rw [List.mem_append] at hb
  rcases hb with hb | hb
  · rw [List.mem_replicate] at hb
    obtain ⟨_, rfl⟩ := hb
    decide
  · exact dec_dgs r b hb
theorem four_len (r : Nat) (h : r < 10000) : (four r).length = 4 := by
  have := four_size r h
  rwa [bstr_size] at this

/-- A text without a sign. -/
def Num (s : ByteArray) : Prop := ∃ dot : Nat, 1 ≤ dot ∧ dot + 2 ≤ s.size ∧ s.size ≤ dot + 5 ∧ (∀ i (h : i < s.size), (i = dot → s[i].toNat = 46) ∧ (i ≠ dot → 48 ≤ s[i].toNat ∧ s[i].toNat ≤ 57)) ∧ (∀ h : 0 < s.size, dot = 1 ∨ s[0].toNat ≠ 48) ∧ (∀ h : s.size - 1 < s.size, s.size = dot + 2 ∨ s[s.size - 1].toNat ≠ 48)
theorem bget (l : List UInt8) (i : Nat) (h : i < (bstr l).size) : (bstr l)[i] = l[i]'(by rw [← bstr_size]; exact h) := by
  show (l.toArray)[i]'(by simpa [bstr, ByteArray.size] using h) = _
  simp
theorem num_of (a b : List UInt8) (ha : a ≠ []) (hd : Dgs a) (hb : Dgs b) (h0 : a.length = 1 ∨ a.head? ≠ some 48) (h1 : 1 ≤ b.length) (h4 : b.length ≤ 4) (hl : b.length = 1 ∨ b.getLast? ≠ some 48) : Num (bstr (a ++ 46 :: b)) := by
  have hal : 1 ≤ a.length := by cases a with | nil => exact absurd rfl ha | cons x t => simp
  have hs : (bstr (a ++ 46 :: b)).size = a.length + b.length + 1 := by rw [bstr_size]; simp; omega
  refine ⟨a.length, hal, by omega, by omega, ?_, ?_, ?_⟩
  · intro i hi
    rw [bget]
    constructor
    · rintro rfl
      simp
    · intro hne
      rcases Nat.lt_or_ge i a.length with h | h
      · rw [List.getElem_append_left h]
        exact hd _ (List.getElem_mem h)
      · rw [List.getElem_append_right h]
        obtain ⟨k, hk⟩ : ∃ k, i - a.length = k + 1 := ⟨i - a.length - 1, by omega⟩
        have : ∀ j (hj : j < (46 :: b).length), j = k + 1 → ((46 :: b)[j]'hj) ∈ b := by
          rintro j hj rfl
          simp
        exact hb _ (this _ _ hk)
  · intro h
    rw [bget]
    rcases h0 with h0 | h0
    · exact .inl h0
    · right
      intro e
      cases a with
      | nil => exact ha rfl
      | cons x t =>
        apply h0
        simp at e ⊢
        exact UInt8.toNat_inj.1 e
  · intro h
    rw [bget]
    rcases hl with hl | hl
    · left; omega
    · right
      intro e
      apply hl
      rw [List.getLast?_eq_getElem?]
      have hx : (a ++ 46 :: b)[(bstr (a ++ 46 :: b)).size - 1]? = b[b.length - 1]? := by
        rw [hs, List.getElem?_append_right (by omega), show a.length + b.length + 1 - 1 - a.length = (b.length - 1) + 1 by omega, List.getElem?_cons_succ]
      rw [← hx, List.getElem?_eq_getElem (by rw [← bstr_size]; exact h)]
      exact congrArg some (UInt8.toNat_inj.1 e)
def Txt (t : ByteArray) : Prop := 0 < t.size ∧ t.size ≤ 27 ∧ ((∀ h : 0 < t.size, t[0].toNat = 45) ∧ Num (t.extract 1 t.size) ∨ (∀ h : 0 < t.size, t[0].toNat ≠ 45) ∧ Num t)
theorem ext_b (l : List UInt8) (n : Nat) : (bstr l).extract 0 n = bstr (l.take n) := by
  apply ByteArray.ext
  apply Array.ext'
  rw [Lib.extract_data]
  simp [bstr]
theorem ext_1 (x : UInt8) (l : List UInt8) : (bstr (x :: l)).extract 1 (bstr (x :: l)).size = bstr l := by
  apply ByteArray.ext
  apply Array.ext'
  rw [bstr_size, Lib.extract_data]
  simp [bstr]
theorem cut_body (u m : Nat) (h : u < 18446744073709551616) (hm : m < (body u).length) (h1 : (body u).length ≤ m + 4) (h2 : (body u).length = m + 4 ∨ (body u)[m] ≠ 48) : Num (bstr ((body u).take (m + 1))) := by
  have h4 := four_len (u % 10000) (by omega)
  have hl : (body u).length = (Lib.decDigits (u / 10000)).length + 5 := by unfold body; simp [h4]
  obtain ⟨j, hj⟩ : ∃ j, m + 1 = (Lib.decDigits (u / 10000)).length + 1 + j := ⟨m + 1 - ((Lib.decDigits (u / 10000)).length + 1), by omega⟩
  have ht : (body u).take (m + 1) = Lib.decDigits (u / 10000) ++ 46 :: (four (u % 10000)).take j := by
    rw [hj, body, List.take_append]
    rw [show (Lib.decDigits (u / 10000)).length + 1 + j - (Lib.decDigits (u / 10000)).length = j + 1 by omega, List.take_of_length_le (by omega)]
    simp
  rw [ht]
  refine num_of _ _ (dec_ne _) (dec_dgs _) (fun b hb => four_dgs _ b (List.mem_of_mem_take hb)) (dec_lead _) (by simp; omega) (by simp; omega) ?_
  rcases h2 with h2 | h2
  · left; simp; omega
  · right
    intro e
    apply h2
    rw [List.getLast?_eq_getElem?] at e
    have hjl : ((four (u % 10000)).take j).length = j := by simp; omega
    rw [hjl, List.getElem?_take_of_lt (by omega)] at e
    have hx : (body u)[m]? = (four (u % 10000))[j - 1]? := by
      unfold body
      rw [List.getElem?_append_right (by omega), show m - (Lib.decDigits (u / 10000)).length = (j - 1) + 1 by omega, List.getElem?_cons_succ]
    rw [← hx, List.getElem?_eq_getElem hm] at e
    exact Option.some.inj e
theorem txt_of (v : Int) (h0 : -9223372036854775808 ≤ v) (h1 : v ≤ 9223372036854775807) (e : Ending) (hc : Cut (bstr (full v)) e) : ∃ t, e = .returned (.string t) ∧ Txt t := by
  obtain ⟨m, hm, rfl, h4, h5⟩ := hc
  have hf := full_size v h0 h1
  refine ⟨_, rfl, ?_⟩
  rw [bget] at h5
  rw [ext_b]
  simp only [bstr_size] at hm h4 h5 hf
  have hsz : (bstr ((full v).take (m + 1))).size = m + 1 := by rw [bstr_size]; simp; omega
  refine ⟨by omega, by omega, ?_⟩
  by_cases hv : v < 0
  · left
    have hfull : full v = 45 :: body v.natAbs := by simp [full, hv]
    obtain ⟨k, rfl⟩ : ∃ k, m = k + 1 := ⟨m - 1, by rw [hfull] at hf h4; simp at *; omega⟩
    constructor
    · intro h
      rw [bget]
      simp [hfull]
    · simp only [hfull, List.take_succ_cons]
      rw [ext_1]
      simp only [hfull, List.length_cons, List.getElem_cons_succ] at hm h4 h5
      exact cut_body v.natAbs k (by omega) (by omega) (by omega) (h5.imp (fun h => by omega) id)
  · right
    have hfull : full v = body v.natAbs := by simp [full, hv]
    simp only [hfull] at hm h4 h5 ⊢
    constructor
    · intro h
      rw [bget]
      have hd := dec_dgs (v.natAbs / 10000)
      have hne := dec_ne (v.natAbs / 10000)
      have hlt : 0 < (Lib.decDigits (v.natAbs / 10000)).length := List.length_pos_iff.2 hne
      rw [List.getElem_take]
      have h9 : (body v.natAbs)[0]'(by omega) = (Lib.decDigits (v.natAbs / 10000))[0]'hlt := List.getElem_append_left hlt
      rw [h9]
      have := hd _ (List.getElem_mem hlt)
      omega
    · exact cut_body v.natAbs m (by omega) hm h4 h5
end Go.Proofs.YtjbehjihpjdimaaDoor
