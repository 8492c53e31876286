/-
  Whatever the two texts: two that are read, one behind the other, are read as both; where the second alone is refused, both are.
-/
import Derived.Test.YtbgmlpckamnnaaaDoorUn
namespace Go.Proofs.YtbgmlpckamnnaaaDoor
open Go.ChangeShapes Go.WideShapes Go.ChangeAt Go.RowKit
set_option linter.unusedVariables false
open Go.ChangeMaps (open_string shut_string)

theorem app_data (a b : ByteArray) : (a ++ b).data.toList = a.data.toList ++ b.data.toList := by simp [ByteArray.data_append]
theorem bs_app (s t : List UInt8) : (⟨(s ++ t).toArray⟩ : ByteArray) = ⟨s.toArray⟩ ++ ⟨t.toArray⟩ := by
  apply ByteArray.ext
  simp [ByteArray.data_append]
set_option maxRecDepth 100000 in
set_option maxHeartbeats 4000000 in
theorem law_small (a b : ByteArray) (ha : a.size ≤ 500) (hb : b.size ≤ 500) (w : World) (hT : Tabs w) :
    Calls Tryd.prog 3 #[.string a, .string b] w fun e w' => e = .returned (.bool true) ∧ Below w.heap.size w w' := by
  have hab : (a ++ b).size = a.size + b.size := by simp
  have H4 : Hid (∀ s : ByteArray, s.size ≤ 10000 → ∀ w, Tabs w → Calls Tryd.prog 4 #[.string s] w fun e w' => (∃ B, e = .returned (.bool B)) ∧ Below w.heap.size w w') := fun s hs w hT => le_4 s hs w hT
  have H5 : Hid (∀ s : ByteArray, s.size ≤ 10000 → ∀ w, Tabs w → Calls Tryd.prog 5 #[.string s, .bool false] w fun e w' => UE s.data.toList e ∧ Below w.heap.size w w') := fun s hs w hT => ue_5 s hs w hT
  have H6 := Lib.hid r7_6
  have HT := Lib.hid hT
  have HAB : Hid ((a ++ b).size ≤ 10000) := by show _ ≤ _; omega
  clear hT hab
  go_enter Tryd.func3, Tryd.ntmps3
  go_wp2_with fail
  refine (H4.out a (by omega) w HT.out).mono ?_
  rintro e w1 ⟨⟨B1, rfl⟩, hb1⟩
  cases B1
  · go_wp2_with fail
    go_ret
    exact ⟨rfl, hb1⟩
  go_wp2_with fail
  refine (H4.out b (by omega) w1 (HT.out.on hb1)).mono ?_
  rintro e w2 ⟨⟨B2, rfl⟩, hb2⟩
  have hb2 := hb1.trans (hb2.mono hb1.size)
  cases B2
  · go_wp2_with fail
    go_ret
    exact ⟨rfl, hb2⟩
  go_wp2_with fail
  refine (H4.out (a ++ b) HAB.out w2 (HT.out.on hb2)).mono ?_
  rintro e w3 ⟨⟨B3, rfl⟩, hb3⟩
  have hb3 := hb2.trans (hb3.mono hb2.size)
  cases B3
  · go_wp2_with fail
    go_ret
    exact ⟨rfl, hb3⟩
  go_wp2_with fail
  refine (H5.out a (by omega) w3 (HT.out.on hb3)).mono ?_
  rintro e w4 ⟨hA, hb4⟩
  have hb4 := hb3.trans (hb4.mono hb3.size)
  rcases hA with ⟨s, hr, hl, rfl⟩ | ⟨hr, rfl⟩
  · have HJ := Lib.hid (joined hr (b := b.data.toList))
    clear hr
    go_wp2_with fail
    refine (H5.out b (by omega) w4 (HT.out.on hb4)).mono ?_
    rintro e w5 ⟨hB, hb5⟩
    have hb5 := hb4.trans (hb5.mono hb4.size)
    rcases hB with ⟨t, hr2, hl2, rfl⟩ | ⟨hr2, rfl⟩
    · have HJ2 : Hid (∀ u, Reads (a ++ b).data.toList [] u ↔ u = s ++ t) := by
        show ∀ u, _
        rw [app_data]; exact HJ.out.1 t hr2
      clear hr2
      go_wp2_with fail
      refine (H5.out (a ++ b) HAB.out w5 (HT.out.on hb5)).mono ?_
      rintro e w6 ⟨⟨u, hr3, hl3, rfl⟩ | ⟨hr3, rfl⟩, hb6⟩
      · have hb6 := hb5.trans (hb6.mono hb5.size)
        obtain rfl := (HJ2.out u).1 hr3
        rw [bs_app]
        clear hr3
        have hla : a.data.toList.length = a.size := rfl
        have hlb : b.data.toList.length = b.size := rfl
        rw [hla] at hl
        rw [hlb] at hl2
        have f1 : (⟨s.toArray⟩ : ByteArray).size = s.length := by simp [ByteArray.size]
        have f2 : (⟨t.toArray⟩ : ByteArray).size = t.length := by simp [ByteArray.size]
        have f3 : ¬ 9223372036854775807 < s.length + t.length := by omega
        clear hla hlb
        go_wp2_with fail
        go_ret
        exact ⟨rfl, hb6⟩
      · exact absurd ⟨_, (HJ2.out _).2 rfl⟩ hr3
    · have HJ2 : Hid (¬ ∃ u, Reads (a ++ b).data.toList [] u) := by
        show ¬ _
        rw [app_data]; exact HJ.out.2 hr2
      clear hr2
      go_wp2_with fail
      refine (H5.out (a ++ b) HAB.out w5 (HT.out.on hb5)).mono ?_
      rintro e w6 ⟨⟨u, hr3, hl3, rfl⟩ | ⟨hr3, rfl⟩, hb6⟩
      · exact absurd ⟨_, hr3⟩ HJ2.out
      · have hb6 := hb5.trans (hb6.mono hb5.size)
        clear hr3
        go_wp2_with fail
        refine (H6.out w6 (HT.out.on hb6)).mono ?_
        rintro e w7 ⟨rfl, hb7⟩
        have hb7 := hb6.trans (hb7.mono hb6.size)
        go_wp2_with fail
        go_ret
        exact ⟨rfl, hb7⟩
  · clear hr
    go_wp2_with fail
    refine (H5.out b (by omega) w4 (HT.out.on hb4)).mono ?_
    rintro e w5 ⟨hB, hb5⟩
    have hb5 := hb4.trans (hb5.mono hb4.size)
    rcases hB with ⟨t, hr2, hl2, rfl⟩ | ⟨hr2, rfl⟩
    all_goals
      clear hr2
      go_wp2_with fail
      refine (H5.out (a ++ b) HAB.out w5 (HT.out.on hb5)).mono ?_
      rintro e w6 ⟨⟨u, hr3, hl3, rfl⟩ | ⟨hr3, rfl⟩, hb6⟩
      all_goals
        have hb6 := hb5.trans (hb6.mono hb5.size)
        clear hr3
        go_wp2_with fail
        refine (H6.out w6 (HT.out.on hb6)).mono ?_
        rintro e w7 ⟨rfl, hb7⟩
        have hb7 := hb6.trans (hb7.mono hb6.size)
        go_wp2_with fail
        go_ret
        exact ⟨rfl, hb7⟩
set_option maxRecDepth 100000 in
set_option maxHeartbeats 1000000 in
theorem law_main (a b : ByteArray) (ha : a.size ≤ maxLen) (hb : b.size ≤ maxLen) (w : World) (hT : Tabs w) :
    Calls Tryd.prog 3 #[.string a, .string b] w fun e w' => e = .returned (.bool true) ∧ Below w.heap.size w w' := by
  rcases Nat.lt_or_ge 500 a.size with h1 | h1
  · clear hT
    rcases Nat.lt_or_ge 2147483647 a.size with h2 | h2
    · go_enter Tryd.func3, Tryd.ntmps3
      go_wp2_with fail
      go_ret
      exact ⟨rfl, Below.refl _ _⟩
    · rcases Nat.lt_or_ge 2147483647 b.size with h3 | h3
      · go_enter Tryd.func3, Tryd.ntmps3
        go_wp2_with fail
        go_ret
        exact ⟨rfl, Below.refl _ _⟩
      · go_enter Tryd.func3, Tryd.ntmps3
        go_wp2_with fail
        go_ret
        exact ⟨rfl, Below.refl _ _⟩
  · rcases Nat.lt_or_ge 500 b.size with h4 | h4
    · clear hT
      rcases Nat.lt_or_ge 2147483647 b.size with h3 | h3
      · go_enter Tryd.func3, Tryd.ntmps3
        go_wp2_with fail
        go_ret
        exact ⟨rfl, Below.refl _ _⟩
      · go_enter Tryd.func3, Tryd.ntmps3
        go_wp2_with fail
        go_ret
        exact ⟨rfl, Below.refl _ _⟩
    · exact law_small a b h1 h4 w hT
end Go.Proofs.YtbgmlpckamnnaaaDoor
