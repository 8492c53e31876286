/-
  What the hexadecimal digits' functions return. Lemmas for this seat's law.
-/
import Derived.Test.YtbgmlpckamnnaaaDoorShelf
import Derived.Test.YtbgmlpckamnnaaaDoorCards
import Derived.Lib.SmallJoins
import Derived.Lib.MapLaws
import Derived.Lib.Hide
import Derived.Lib.TrimUEq
namespace Go.Proofs.YtbgmlpckamnnaaaDoor
open Go.ChangeShapes Go.WideShapes Go.ChangeAt Go.RowKit
set_option linter.unusedVariables false

def lowI (c : Int) : Int := bits .or .i32 32 c
def decB (c : Int) : Bool := decide (48 ≤ c) && decide (c ≤ 57)
def hexB (c : Int) : Bool := decB c || (decide (97 ≤ lowI c) && decide (lowI c ≤ 102))
def dvI (c : Int) : Int := if 48 ≤ c ∧ c ≤ 57 then c - 48 else if 97 ≤ lowI c ∧ lowI c ≤ 102 then lowI c - 87 else 16
theorem low_26 (c : Int) (w : World) : Calls Tryd.prog 26 #[.int .i32 c] w fun e w' => e = .returned (.int .i32 (lowI c)) ∧ w' = w := by
  go_enter Tryd.func26, Tryd.ntmps26
  go_wp2_with fail
  go_ret
  exact ⟨rfl, rfl⟩
theorem dec_25 (c : Int) (w : World) : Calls Tryd.prog 25 #[.int .i32 c] w fun e w' => e = .returned (.bool (decB c)) ∧ w' = w := by
  by_cases h1 : 48 ≤ c
  · by_cases h2 : c ≤ 57
    · go_enter Tryd.func25, Tryd.ntmps25
      go_wp2_with fail
      go_ret
      exact ⟨by simp [decB, h1, h2], rfl⟩
    · go_enter Tryd.func25, Tryd.ntmps25
      go_wp2_with fail
      go_ret
      exact ⟨by simp [decB, h1, h2], rfl⟩
  · go_enter Tryd.func25, Tryd.ntmps25
    go_wp2_with fail
    go_ret
    exact ⟨by simp [decB]; omega, rfl⟩
theorem hex_19 (c : Int) (w : World) : Calls Tryd.prog 19 #[.int .i32 c] w fun e w' => e = .returned (.bool (hexB c)) ∧ w' = w := by
  have hx : hexB c = (decB c || (decide (97 ≤ lowI c) && decide (lowI c ≤ 102))) := rfl
  have H26 := Lib.hid (low_26 c)
  have H25 := Lib.hid (dec_25 c)
  generalize hexB c = B at *
  generalize lowI c = L at *
  generalize decB c = D at *
  have HX := Lib.hid hx
  clear hx
  cases D
  · by_cases h1 : 97 ≤ L
    · by_cases h2 : L ≤ 102
      · go_enter Tryd.func19, Tryd.ntmps19
        go_wp2_with (first | (go_at_call 25; refine (H25.out _).mono ?_; rintro e w1 ⟨rfl, rfl⟩) | (go_at_call 26; refine (H26.out _).mono ?_; rintro e w1 ⟨rfl, rfl⟩))
        go_ret
        exact ⟨congrArg (fun b => Ending.returned (Value.bool b)) (by rw [HX.out]; first | (simp; done) | (simp; omega)), rfl⟩
      · go_enter Tryd.func19, Tryd.ntmps19
        go_wp2_with (first | (go_at_call 25; refine (H25.out _).mono ?_; rintro e w1 ⟨rfl, rfl⟩) | (go_at_call 26; refine (H26.out _).mono ?_; rintro e w1 ⟨rfl, rfl⟩))
        go_ret
        exact ⟨congrArg (fun b => Ending.returned (Value.bool b)) (by rw [HX.out]; first | (simp; done) | (simp; omega)), rfl⟩
    · go_enter Tryd.func19, Tryd.ntmps19
      go_wp2_with (first | (go_at_call 25; refine (H25.out _).mono ?_; rintro e w1 ⟨rfl, rfl⟩) | (go_at_call 26; refine (H26.out _).mono ?_; rintro e w1 ⟨rfl, rfl⟩))
      go_ret
      exact ⟨congrArg (fun b => Ending.returned (Value.bool b)) (by rw [HX.out]; first | (simp; done) | (simp; omega)), rfl⟩
  · go_enter Tryd.func19, Tryd.ntmps19
    go_wp2_with (first | (go_at_call 25; refine (H25.out _).mono ?_; rintro e w1 ⟨rfl, rfl⟩) | (go_at_call 26; refine (H26.out _).mono ?_; rintro e w1 ⟨rfl, rfl⟩))
    go_ret
    exact ⟨by rw [HX.out]; rfl, rfl⟩
theorem dv_20 (c : Int) (w : World) : Calls Tryd.prog 20 #[.int .i32 c] w fun e w' => e = .returned (.int .i64 (dvI c)) ∧ w' = w := by
  have hx : dvI c = (if 48 ≤ c ∧ c ≤ 57 then c - 48 else if 97 ≤ lowI c ∧ lowI c ≤ 102 then lowI c - 87 else 16) := rfl
  have H26 := Lib.hid (low_26 c)
  generalize dvI c = B at *
  generalize lowI c = L at *
  have HX := Lib.hid hx
  clear hx
  by_cases h1 : 48 ≤ c
  · by_cases h2 : c ≤ 57
    · go_enter Tryd.func20, Tryd.ntmps20
      go_wp2_with (first | (go_at_call 26; refine (H26.out _).mono ?_; rintro e w1 ⟨rfl, rfl⟩))
      go_ret
      exact ⟨congrArg (fun z => Ending.returned (Value.int .i64 z)) (by rw [HX.out]; split <;> (try split) <;> omega), rfl⟩
    · by_cases h3 : 97 ≤ L
      · by_cases h4 : L ≤ 102
        · go_enter Tryd.func20, Tryd.ntmps20
          go_wp2_with (first | (go_at_call 26; refine (H26.out _).mono ?_; rintro e w1 ⟨rfl, rfl⟩))
          go_ret
          exact ⟨congrArg (fun z => Ending.returned (Value.int .i64 z)) (by rw [HX.out]; split <;> (try split) <;> omega), rfl⟩
        · go_enter Tryd.func20, Tryd.ntmps20
          go_wp2_with (first | (go_at_call 26; refine (H26.out _).mono ?_; rintro e w1 ⟨rfl, rfl⟩))
          go_ret
          exact ⟨congrArg (fun z => Ending.returned (Value.int .i64 z)) (by rw [HX.out]; split <;> (try split) <;> omega), rfl⟩
      · go_enter Tryd.func20, Tryd.ntmps20
        go_wp2_with (first | (go_at_call 26; refine (H26.out _).mono ?_; rintro e w1 ⟨rfl, rfl⟩))
        go_ret
        exact ⟨congrArg (fun z => Ending.returned (Value.int .i64 z)) (by rw [HX.out]; split <;> (try split) <;> omega), rfl⟩
  · by_cases h3 : 97 ≤ L
    · by_cases h4 : L ≤ 102
      · go_enter Tryd.func20, Tryd.ntmps20
        go_wp2_with (first | (go_at_call 26; refine (H26.out _).mono ?_; rintro e w1 ⟨rfl, rfl⟩))
        go_ret
        exact ⟨congrArg (fun z => Ending.returned (Value.int .i64 z)) (by rw [HX.out]; split <;> (try split) <;> omega), rfl⟩
      · go_enter Tryd.func20, Tryd.ntmps20
        go_wp2_with (first | (go_at_call 26; refine (H26.out _).mono ?_; rintro e w1 ⟨rfl, rfl⟩))
        go_ret
        exact ⟨congrArg (fun z => Ending.returned (Value.int .i64 z)) (by rw [HX.out]; split <;> (try split) <;> omega), rfl⟩
    · go_enter Tryd.func20, Tryd.ntmps20
      go_wp2_with (first | (go_at_call 26; refine (H26.out _).mono ?_; rintro e w1 ⟨rfl, rfl⟩))
      go_ret
      exact ⟨congrArg (fun z => Ending.returned (Value.int .i64 z)) (by rw [HX.out]; split <;> (try split) <;> omega), rfl⟩

/-- errors.New: an error that is not nil. -/
theorem err_15 (s : ByteArray) (w : World) : Calls Tryd.prog 15 #[.string s] w fun e w' => (∃ t u, e = .returned (.iface t u)) ∧ Below w.heap.size w w' := by
  go_enter Tryd.func15, Tryd.ntmps15
  go_wp2_with fail
  go_ret
  exact ⟨⟨_, _, rfl⟩, (Below.refl _ _).alloc (Nat.le_refl _) _⟩
end Go.Proofs.YtbgmlpckamnnaaaDoor
