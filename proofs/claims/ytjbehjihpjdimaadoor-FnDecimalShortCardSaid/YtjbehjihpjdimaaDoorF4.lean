/-
  What strconv.FormatInt (base ten) and zzFour return. Lemmas for this seat's law.
-/
import Derived.Test.YtjbehjihpjdimaaDoorShelf
import Derived.Test.YtjbehjihpjdimaaDoorCards
import Derived.Lib.SmallJoins
import Derived.Lib.AppendIntMem
namespace Go.Proofs.YtjbehjihpjdimaaDoor
open Go.ChangeShapes Go.WideShapes Go.ChangeAt Go.RowKit
set_option linter.unusedVariables false

def Tab (w : World) : Prop := Lib.TabIs Tryd.prog w "internal/strconv.uint64pow10" .u64 Lib.pow10Tab
theorem Tab.on {w w' : World} (h : Tab w) (hb : Below w.heap.size w w') : Tab w' := Lib.tabBelow_of_tabIs h w' hb
def bstr (l : List UInt8) : ByteArray := ⟨l.toArray⟩
theorem bstr_size (l : List UInt8) : (bstr l).size = l.length := by simp [bstr, ByteArray.size]

theorem fi_7 (n : Int) (h0 : -9223372036854775808 ≤ n) (h1 : n ≤ 9223372036854775807) (w : World) (ht : Tab w) :
    Calls Tryd.prog 7 #[.int .i64 n, .int .i64 10] w fun e w' => e = .returned (.string (bstr (Lib.itoa n))) ∧ Below w.heap.size w w' := by
  have H := Lib.hid (Tryd.internal_strconv_FormatInt_10 n h0 h1)
  have HT := Lib.hid ht
  clear h0 h1 ht
  go_enter Tryd.func7, Tryd.ntmps7
  go_wp2_with fail
  refine (H.out _ HT.out).mono ?_
  rintro e w1 ⟨rfl, k, os, rfl⟩
  go_wp2_with fail
  go_ret
  exact ⟨rfl, Lib.below_grow _ _ (Nat.le_refl _) _ _⟩

theorem nDig_le {u k : Nat} (h : u < 10 ^ k) (hk : 1 ≤ k) : Lib.nDigits u ≤ k := by
  induction k generalizing u with
  | zero => omega
  | succ k ih =>
    by_cases hu : u < 10
    · rw [Lib.nDigits_small hu]; omega
    · rw [Lib.nDigits_big hu]
      have h10 : u / 10 < 10 ^ k := by rw [Nat.div_lt_iff_lt_mul (by decide)]; simpa [Nat.pow_succ] using h
      rcases Nat.eq_zero_or_pos k with rfl | hp
      · simp at h; omega
      · have := ih h10 hp; omega
def pad (k u : Nat) : List UInt8 := List.replicate k 48 ++ Lib.decDigits u
def four (u : Nat) : List UInt8 := pad (4 - (Lib.decDigits u).length) u
def strLen : Value → Nat
  | .string s => s.size
  | _ => 0
theorem pad_size (k u : Nat) : (bstr (pad k u)).size = k + (Lib.decDigits u).length := by simp [bstr_size, pad]
theorem zero_pad (k u : Nat) : (⟨#[48]⟩ : ByteArray) ++ bstr (pad k u) = bstr (pad (k + 1) u) := by
  apply ByteArray.ext
  simp [bstr, pad, ByteArray.data_append, List.replicate_succ]
theorem z4_8 (u : Nat) (hu : u < 10000) (w : World) (ht : Tab w) :
    Calls Tryd.prog 8 #[.int .i64 (u : Int)] w fun e w' => e = .returned (.string (bstr (four u))) ∧ Below w.heap.size w w' := by
  have h7 := fi_7 (u : Int) (by omega) (by omega) w ht
  rw [Lib.itoa_nonneg, show bstr (Lib.decDigits u) = bstr (pad 0 u) by simp [pad]] at h7
  have H := Lib.hid h7
  have HL : Hid ((Lib.decDigits u).length ≤ 4) := by
    show _ ≤ _
    rw [Lib.decDigits_length]
    exact nDig_le (by omega) (by decide)
  have HP := fun k => pad_size k u
  clear h7 ht hu
  go_enter Tryd.func8, Tryd.ntmps8
  go_wp2_with fail
  refine H.out.mono ?_
  rintro e w1 ⟨rfl, hb⟩
  go_wp2_with fail
  go_loopw [3] (fun v wr => ∃ k : Nat, k + (Lib.decDigits u).length ≤ 4 ∧ v = .string (bstr (pad k u)) ∧ wr = w1) (fun v _ => 5 - strLen v)
  case atStart => exact ⟨0, by have := HL.out; omega, rfl, rfl⟩
  case round =>
    obtain ⟨k, hk, rfl, rfl⟩ := hrel
    by_cases hlt : k + (Lib.decDigits u).length < 4
    · have f1 : ((bstr (pad k u)).size : Int) < 4 := by rw [HP k]; omega
      have f2 := zero_pad k u
      have F3 := HP k
      have F4 := HP (k + 1)
      go_wp2_with fail
      go_round
      case rel => exact ⟨k + 1, by omega, rfl, trivial⟩
      case measure => simp [strLen]; omega
    · have f1 : ¬ ((bstr (pad k u)).size : Int) < 4 := by rw [HP k]; omega
      obtain rfl : k = 4 - (Lib.decDigits u).length := by omega
      go_wp2_with fail
      go_ret
      exact ⟨rfl, hb⟩
end Go.Proofs.YtjbehjihpjdimaaDoor
