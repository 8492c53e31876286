/-
  Reading an escaped text piece by piece, in plain Lean. Lemmas for this seat's law.
-/
import Derived.Test.YtbgmlpckamnnaaaDoorPu
namespace Go.Proofs.YtbgmlpckamnnaaaDoor
open Go.ChangeShapes Go.WideShapes Go.ChangeAt Go.RowKit
set_option linter.unusedVariables false

def escC (c : Nat) : Option Nat :=
  if c = 110 then some 10 else if c = 114 then some 13 else if c = 116 then some 9 else if c = 92 then some 92 else if c = 48 then some 0 else if c = 39 then some 39 else if c = 34 then some 34 else none
def encO (k : Nat) (x : Option (Int × Nat)) : Option (List UInt8 × Nat) := match x with
  | none => none
  | some (v, j) => some (Lib.encodeRune v, k + j)
/-- What stands behind a backslash. -/
def escK (c k : Nat) (l : List UInt8) : Option (List UInt8 × Nat) :=
  match escC c with
  | some z => some (Lib.encodeRune (z : Int), k)
  | none => if c = 120 then encO k (phK l) else if c = 117 then encO k (puK l) else none
/-- One character or escape: what it stands for, and how many bytes it takes. -/
def tokK (l : List UInt8) : Option (List UInt8 × Nat) :=
  match nrK l with
  | none => none
  | some (c, k) => if c = 92 then
      (match nrK (l.drop k) with
      | none => none
      | some (c2, k2) => escK c2 (k + k2) (l.drop (k + k2)))
    else some (Lib.encodeRune (c : Int), k)
inductive Reads : List UInt8 → List UInt8 → List UInt8 → Prop
  | nil (acc) : Reads [] acc acc
  | step (l acc o k t) : l ≠ [] → tokK l = some (o, k) → Reads (l.drop k) (acc ++ o) t → Reads l acc t

theorem encO_app {k : Nat} {f : List UInt8 → Option (Int × Nat)} (hf : ∀ (l : List UInt8) (v : Int) (j : Nat) (m : List UInt8), f l = some (v, j) → f (l ++ m) = some (v, j)) {l m : List UInt8} {o n} (h : encO k (f l) = some (o, n)) : encO k (f (l ++ m)) = some (o, n) := by
  cases hx : f l with
  | none => rw [hx] at h; cases h
  | some y => obtain ⟨v, j⟩ := y; rw [hf l v j m hx, ← hx]; exact h
theorem encO_k {k : Nat} {x : Option (Int × Nat)} {o n} (h : encO k x = some (o, n)) : ∃ v j, x = some (v, j) ∧ o = Lib.encodeRune v ∧ n = k + j := by
  cases x with
  | none => cases h
  | some y =>
    obtain ⟨v, j⟩ := y
    simp only [encO, Option.some.injEq, Prod.mk.injEq] at h
    exact ⟨v, j, rfl, h.1.symm, h.2.symm⟩
theorem escK_app {c k : Nat} {l m : List UInt8} {o n} (h : escK c k l = some (o, n)) : escK c k (l ++ m) = some (o, n) := by
  unfold escK at h ⊢
  cases he : escC c with
  | some z => rw [he] at h; exact h
  | none =>
    rw [he] at h
    simp only at h ⊢
    split
    · rename_i h1; rw [if_pos h1] at h; exact encO_app (f := phK) (fun l v j m hh => phK_app hh m) h
    · rename_i h1
      rw [if_neg h1] at h
      split
      · rename_i h2; rw [if_pos h2] at h; exact encO_app (f := puK) (fun l v j m hh => puK_app hh m) h
      · rename_i h2; rw [if_neg h2] at h; cases h
theorem encB (r : Int) : (Lib.encodeRune r).length ≤ 4 := by
  have := (Lib.runeCells_le r).2
  rwa [Lib.runeCells_length] at this
theorem escK_k {c k : Nat} {l : List UInt8} {o n} (h : escK c k l = some (o, n)) : k ≤ n ∧ n ≤ k + l.length ∧ o.length ≤ 4 := by
  unfold escK at h
  cases he : escC c with
  | some z =>
    rw [he] at h
    simp only [Option.some.injEq, Prod.mk.injEq] at h
    obtain ⟨rfl, rfl⟩ := h
    exact ⟨by omega, by omega, encB _⟩
  | none =>
    rw [he] at h
    simp only at h
    split at h
    · obtain ⟨v, j, hx, rfl, rfl⟩ := encO_k h
      have := phK_k hx
      exact ⟨by omega, by omega, encB _⟩
    · split at h
      · obtain ⟨v, j, hx, rfl, rfl⟩ := encO_k h
        have := puK_k hx
        exact ⟨by omega, by omega, encB _⟩
      · cases h
theorem tokK_app {l : List UInt8} {o n} (h : tokK l = some (o, n)) (m : List UInt8) : tokK (l ++ m) = some (o, n) := by
  unfold tokK at h ⊢
  cases hn : nrK l with
  | none => rw [hn] at h; cases h
  | some y =>
    obtain ⟨c, k⟩ := y
    rw [nrK_app hn m]
    rw [hn] at h
    obtain ⟨_, _, _, _, _, hk⟩ := nrK_some hn
    simp only at h ⊢
    split
    · rename_i h1
      rw [if_pos h1] at h
      rw [List.drop_append_of_le_length hk]
      cases hn2 : nrK (l.drop k) with
      | none => rw [hn2] at h; cases h
      | some y2 =>
        obtain ⟨c2, k2⟩ := y2
        obtain ⟨_, _, _, _, _, hk2⟩ := nrK_some hn2
        rw [List.length_drop] at hk2
        rw [nrK_app hn2 m]
        rw [hn2] at h
        simp only at h ⊢
        rw [List.drop_append_of_le_length (by omega)]
        exact escK_app h
    · rename_i h1; rw [if_neg h1] at h; exact h
theorem tokK_k {l : List UInt8} {o n} (h : tokK l = some (o, n)) : 1 ≤ n ∧ n ≤ l.length ∧ o.length ≤ 4 := by
  unfold tokK at h
  cases hn : nrK l with
  | none => rw [hn] at h; cases h
  | some y =>
    obtain ⟨c, k⟩ := y
    rw [hn] at h
    obtain ⟨_, _, _, _, h1, hk⟩ := nrK_some hn
    simp only at h
    split at h
    · cases hn2 : nrK (l.drop k) with
      | none => rw [hn2] at h; cases h
      | some y2 =>
        obtain ⟨c2, k2⟩ := y2
        obtain ⟨_, _, _, _, h2, hk2⟩ := nrK_some hn2
        rw [List.length_drop] at hk2
        rw [hn2] at h
        have := escK_k h
        rw [List.length_drop] at this
        exact ⟨by omega, by omega, this.2.2⟩
    · simp only [Option.some.injEq, Prod.mk.injEq] at h
      obtain ⟨rfl, rfl⟩ := h
      exact ⟨h1, hk, encB _⟩
theorem reads_nil {acc t : List UInt8} : Reads [] acc t ↔ t = acc := by
  constructor
  · intro h
    cases h with
    | nil => rfl
    | step _ _ _ _ _ h0 _ _ => exact absurd rfl h0
  · rintro rfl; exact .nil _
theorem reads_step {l acc t o : List UInt8} {k : Nat} (h0 : l ≠ []) (h : tokK l = some (o, k)) : Reads l acc t ↔ Reads (l.drop k) (acc ++ o) t := by
  constructor
  · intro hr
    cases hr with
    | nil => exact absurd rfl h0
    | step _ _ o' k' _ _ h' hr' =>
      rw [h] at h'
      simp only [Option.some.injEq, Prod.mk.injEq] at h'
      obtain ⟨rfl, rfl⟩ := h'
      exact hr'
  · exact .step _ _ _ _ _ h0 h
theorem reads_none {l acc t : List UInt8} (h0 : l ≠ []) (h : tokK l = none) : ¬ Reads l acc t := by
  intro hr
  cases hr with
  | nil => exact h0 rfl
  | step _ _ o' k' _ _ h' hr' => rw [h] at h'; cases h'
theorem reads_app {l acc s : List UInt8} (h : Reads l acc s) (m u : List UInt8) : Reads (l ++ m) acc u ↔ Reads m s u := by
  induction h with
  | nil acc => exact Iff.rfl
  | step l acc o k t h0 h1 _ ih =>
    rw [reads_step (by simp [h0]) (tokK_app h1 m), List.drop_append_of_le_length (tokK_k h1).2.1]
    exact ih
theorem reads_acc {l acc v : List UInt8} (h : Reads l acc v) (p : List UInt8) : Reads l (p ++ acc) (p ++ v) := by
  induction h with
  | nil acc => exact .nil _
  | step l acc o k t h0 h1 _ ih =>
    rw [← List.append_assoc] at ih
    exact .step _ _ _ _ _ h0 h1 ih
theorem reads_un {n : Nat} : ∀ {l p acc u : List UInt8}, l.length = n → Reads l (p ++ acc) u → ∃ v, u = p ++ v ∧ Reads l acc v := by
  induction n using Nat.strongRecOn with
  | ind n ih =>
    intro l p acc u hl h
    cases h with
    | nil => exact ⟨acc, rfl, .nil _⟩
    | step _ _ o k _ h0 h1 h2 =>
      have := tokK_k h1
      rw [List.append_assoc] at h2
      obtain ⟨v, rfl, hv⟩ := ih (l.drop k).length (by rw [List.length_drop]; omega) rfl h2
      exact ⟨v, rfl, .step _ _ _ _ _ h0 h1 hv⟩
/-- THE LAW: where both are read, the two together are read as both; where the second alone is refused, both are. -/
theorem joined {a b s : List UInt8} (ha : Reads a [] s) : (∀ t, Reads b [] t → ∀ u, Reads (a ++ b) [] u ↔ u = s ++ t) ∧ ((¬ ∃ t, Reads b [] t) → ¬ ∃ u, Reads (a ++ b) [] u) := by
  have det : ∀ {l acc t u : List UInt8}, Reads l acc t → Reads l acc u → t = u := by
    intro l acc t u h1 h2
    induction h1 with
    | nil acc => exact (reads_nil.1 h2).symm
    | step l acc o k t h0 h1 _ ih => exact ih ((reads_step h0 h1).1 h2)
  constructor
  · intro t ht u
    rw [reads_app ha]
    constructor
    · intro h
      obtain ⟨v, rfl, hv⟩ := reads_un (p := s) (acc := []) rfl (by simpa using h)
      rw [det hv ht]
    · rintro rfl
      simpa using reads_acc ht s
  · rintro hb ⟨u, hu⟩
    rw [reads_app ha] at hu
    obtain ⟨v, rfl, hv⟩ := reads_un (p := s) (acc := []) rfl (by simpa using hu)
    exact hb ⟨v, hv⟩
end Go.Proofs.YtbgmlpckamnnaaaDoor
