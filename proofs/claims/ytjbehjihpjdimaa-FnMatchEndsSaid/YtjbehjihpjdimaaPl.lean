/-
  A pattern of two pieces with a wildcard between them is met just by the texts that begin with the one, end with the other behind it. Plain lists, no program.
-/
import Derived.Test.YtjbehjihpjdimaaPt
namespace Go.Proofs.Ytjbehjihpjdimaa
open Go.RowKit
set_option linter.unusedVariables false

theorem rest_list (c s : ByteArray) (h : mcOk c s = true) : (mcRest c s).data.toList = s.data.toList.drop c.size := by
  unfold mcRest; rw [if_pos h, Lib.extract_to_end]
theorem ok_iff (c s : ByteArray) : mcOk c s = true ↔ c.data.toList <+: s.data.toList := by unfold mcOk; exact List.isPrefixOf_iff_prefix
theorem rest_zero (c s : ByteArray) (h : mcOk c s = true) (hz : (mcRest c s).size = 0) : c.data.toList = s.data.toList := by
  obtain ⟨h1, h2⟩ := mc_take c s h
  have h3 := rest_list c s h
  have h4 : (s.data.toList.drop c.size) = [] := by
    rw [← h3]; apply List.eq_nil_of_length_eq_zero; rw [len_eq]; exact hz
  rw [h1]
  have := List.take_append_drop c.size s.data.toList
  rw [h4, List.append_nil] at this
  exact this
theorem drop_list (x : ByteArray) (j : Nat) : (x.extract j x.size).data.toList = x.data.toList.drop j := Lib.extract_to_end x j

theorem srch_some {b x t : ByteArray} (h : srch b x true = some t) : t.size = 0 ∧ b.data.toList <:+ x.data.toList := by
  unfold srch at h
  obtain ⟨i, _, hi⟩ := List.exists_of_findSome?_eq_some h
  unfold srchAt at hi
  split at hi
  · rename_i hc
    simp only [Bool.and_eq_true, Bool.not_eq_true', Bool.true_and, decide_eq_false_iff_not] at hc
    simp only [Option.some.injEq] at hi
    subst hi
    have hz : (mcRest b (x.extract (i + 1) x.size)).size = 0 := by omega
    refine ⟨hz, ?_⟩
    rw [rest_zero _ _ hc.1 hz, drop_list]
    exact List.drop_suffix _ _
  · cases hi
theorem srch_no {b x : ByteArray} (h : srch b x true = none) (j : Nat) (hj : j < x.size) : b.data.toList ≠ x.data.toList.drop (j + 1) := by
  unfold srch at h
  rw [List.findSome?_eq_none_iff] at h
  have := h j (List.mem_range.2 hj)
  unfold srchAt at this
  intro e
  rw [if_pos] at this
  · cases this
  · have hok : mcOk b (x.extract (j + 1) x.size) = true := by
      rw [ok_iff, drop_list, ← e]; exact List.prefix_rfl
    have hr : (mcRest b (x.extract (j + 1) x.size)).size = 0 := by
      rw [← len_eq, rest_list _ _ hok, drop_list, ← e, List.length_drop, len_eq]; omega
    rw [hok, hr]; rfl

theorem mat_end (b x : ByteArray) : matF [(true, b)] x = true ↔ b.data.toList <:+ x.data.toList := by
  rw [matF]
  by_cases hb : b.size = 0
  · rw [if_pos ⟨rfl, hb⟩]
    have : b.data.toList = [] := List.eq_nil_of_length_eq_zero (by rw [len_eq]; exact hb)
    rw [this]; simp
  · rw [if_neg (by simp [hb])]
    by_cases h : mcOk b x = true ∧ ((mcRest b x).size = 0 ∨ ([] : List (Bool × ByteArray)) ≠ [])
    · rw [if_pos h]
      have hz : (mcRest b x).size = 0 := h.2.resolve_right (by simp)
      rw [matF, rest_zero _ _ h.1 hz]
      simp [hz]
    · rw [if_neg h, if_pos rfl]
      show (match srch b x true with | some t => matF [] t | none => false) = true ↔ _
      cases hs : srch b x true with
      | some t =>
        obtain ⟨h1, h2⟩ := srch_some hs
        show matF [] t = true ↔ _
        rw [matF]; simp [h1, h2]
      | none =>
        show false = true ↔ _
        constructor
        · intro h; cases h
        · intro hsuf
          exfalso
          have he := List.suffix_iff_eq_drop.1 hsuf
          have hl := hsuf.length_le
          rw [len_eq, len_eq] at hl he
          rcases Nat.lt_or_ge b.size x.size with hlt | hge
          · have := srch_no hs (x.size - b.size - 1) (by omega)
            rw [show x.size - b.size - 1 + 1 = x.size - b.size from by omega] at this
            exact this he
          · have e0 : x.size - b.size = 0 := by omega
            rw [e0, List.drop_zero] at he
            have hok : mcOk b x = true := by rw [ok_iff, he]; exact List.prefix_rfl
            exact h ⟨hok, .inl (by rw [← len_eq, rest_list _ _ hok, List.length_drop, len_eq]; omega)⟩
theorem mat_two (a b s : ByteArray) (ha : a.size ≠ 0) : matF [(false, a), (true, b)] s = true ↔ a.data.toList <+: s.data.toList ∧ b.data.toList <:+ s.data.toList.drop a.size := by
  rw [matF, if_neg (by simp)]
  by_cases h : mcOk a s = true
  · rw [if_pos ⟨h, .inr (by simp)⟩, mat_end, rest_list a s h]
    exact ⟨fun k => ⟨(ok_iff a s).1 h, k⟩, fun k => k.2⟩
  · rw [if_neg (by intro k; exact h k.1), if_neg (by simp)]
    constructor
    · intro k; cases k
    · intro k; exact absurd ((ok_iff a s).2 k.1) h

def pairR (a b : ByteArray) : List (Bool × ByteArray) := (outE [a, b] 2).foldl np []
theorem pair_ne (a b : ByteArray) : outE [a, b] 2 ≠ [] ∧ pairR a b ≠ [] := by
  constructor
  · intro h
    have := congrArg List.length h
    simp [outE, stepE] at this
  · unfold pairR
    by_cases ha : a.size = 0 <;> by_cases hb : b.size = 0 <;> simp [outE, stepE, ha, hb, np, npLast]
theorem pair_mat (a b s : ByteArray) : matF (pairR a b) s = true ↔ a.data.toList <+: s.data.toList ∧ b.data.toList <:+ s.data.toList.drop a.size := by
  unfold pairR
  by_cases ha : a.size = 0
  · have ea : a.data.toList = [] := List.eq_nil_of_length_eq_zero (by rw [len_eq]; exact ha)
    have hr : (outE [a, b] 2).foldl np [] = [(true, b)] := by
      by_cases hb : b.size = 0
      · have eb : b = ByteArray.empty := ByteArray.size_eq_zero_iff.1 hb
        simp [outE, stepE, ha, np, eb]
      · simp [outE, stepE, ha, hb, np, npLast]
    rw [hr, mat_end, ea, ha]; simp
  · have hr : (outE [a, b] 2).foldl np [] = [(false, a), (true, b)] := by
      by_cases hb : b.size = 0
      · have eb : b = ByteArray.empty := ByteArray.size_eq_zero_iff.1 hb
        simp [outE, stepE, ha, np, npLast, eb]
      · simp [outE, stepE, ha, hb, np, npLast]
    rw [hr, mat_two a b s ha]

/-- What the law asks: room for both, the beginning, the end. -/
theorem pair_want (a b s : ByteArray) : matF (pairR a b) s = true ↔ a.size + b.size ≤ s.size ∧ s.data.toList.take a.size = a.data.toList ∧ s.data.toList.drop (s.size - b.size) = b.data.toList := by
  rw [pair_mat, List.prefix_iff_eq_take, List.suffix_iff_eq_drop, len_eq, len_eq, List.length_drop, len_eq, List.drop_drop]
  constructor
  · rintro ⟨h1, h2⟩
    have l1 := congrArg List.length h1
    have l2 := congrArg List.length h2
    rw [List.length_take, len_eq, len_eq] at l1
    rw [List.length_drop, len_eq, len_eq] at l2
    have hle : a.size + b.size ≤ s.size := by omega
    refine ⟨hle, h1.symm, ?_⟩
    rw [show a.size + (s.size - a.size - b.size) = s.size - b.size from by omega] at h2
    exact h2.symm
  · rintro ⟨hle, h1, h2⟩
    rw [show a.size + (s.size - a.size - b.size) = s.size - b.size from by omega]
    exact ⟨h1.symm, h2.symm⟩
end Go.Proofs.Ytjbehjihpjdimaa
