/-
  What impl.Unescape, letters and reads7 return. Lemmas for this seat's law.
-/
import Derived.Test.YtbgmlpckamnnaaaDoorUq
import Derived.Lib.ConvBytes
import Derived.Lib.AtoiErrMem
import Derived.Laws.IdiomStrings
namespace Go.Proofs.YtbgmlpckamnnaaaDoor
open Go.ChangeShapes Go.WideShapes Go.ChangeAt Go.RowKit
set_option linter.unusedVariables false

theorem get_at (x : ByteArray) (k : Nat) : x.get! k = x.data.toList.getD k 0 := by
  show x.data[k]! = _
  rw [Array.getElem!_eq_getD, Array.getD_eq_getD_getElem?]
  simp [List.getD]
  rfl
theorem bw_bts (w : World) (s : ByteArray) : Bts (Lib.bytesWorld w 5 s) w.heap.size s :=
  ⟨by rw [Lib.bytesWorld_size]; omega, fun j hj => by rw [Lib.bytesWorld_cell w 5 s j hj, get_at]⟩
/-- Unescape's result. -/
def UE (L : List UInt8) (e : Ending) : Prop :=
  (∃ t, Reads L [] t ∧ t.length ≤ 4 * L.length ∧ e = .returned (.tuple #[.string ⟨t.toArray⟩, .string ⟨#[]⟩, .bool true])) ∨ ((¬ ∃ t, Reads L [] t) ∧ e = .returned (.tuple #[.string ⟨#[]⟩, .string ⟨#[]⟩, .bool false]))
theorem cap_ge (w : World) (s : ByteArray) : s.size ≤ grownCap w s.size 0 5 := by
  exact grownCap_ge w s.size 0 5
theorem cv_some (w : World) (a : Addr) (c : Nat) : (convert 27 9 (.slice (some a) 0 c)).run Tryd.prog w = .ok (.string ⟨#[]⟩) w :=
  run_convert_bytes_back (P := Tryd.prog) w 27 9 5 a c [] Tryd.underlying27 Tryd.underlying5 Tryd.underlying9 (fun j hj => absurd hj (Nat.not_lt_zero j))
theorem cv_none (w : World) : (convert 27 9 (.slice none 0 0)).run Tryd.prog w = .ok (.string ⟨#[]⟩) w := by
  rw [run_convert_bytes_string w 27 9 5 none 0 0 Tryd.underlying27 Tryd.underlying5 Tryd.underlying9]
  rfl
theorem ue_5 (s : ByteArray) (hs : s.size ≤ 10000) (w : World) (hT : Tabs w) :
    Calls Tryd.prog 5 #[.string s, .bool false] w fun e w' => UE s.data.toList e ∧ Below w.heap.size w w' := by
  have hb0 := Lib.bytesWorld_below w 5 s
  have h8 := uq_8 s hs w.heap.size (grownCap w s.size 0 5) (cap_ge w s) (Lib.bytesWorld w 5 s) (hT.on hb0) (bw_bts w s)
  have hcv := Lib.run_convert_string_bytes (P := Tryd.prog) w 9 27 5 s Tryd.underlying9 Tryd.underlying27 Tryd.underlying5
  have H8 := Lib.hid h8
  have HB0 := Lib.hid hb0
  clear h8 hb0 hT
  go_enter Tryd.func5, Tryd.ntmps5
  go_wp2_with fail
  refine H8.out.mono ?_
  rintro e w1 ⟨⟨t, a, c, hr, hl, rfl⟩ | ⟨hr, t, u, rfl⟩, hb⟩
  · have hb1 := HB0.out.trans (hb.mono HB0.out.size)
    have HR := Lib.hid hr
    have HL := Lib.hid hl
    have HB1 := Lib.hid hb1
    have hc2 := fun w' => cv_some w' a c
    clear hr hl hb hb1 hcv
    go_wp2_with fail
    go_quiet (fail)
    go_wp2_with fail
    exact bodyPost_ret (v := .tuple #[.string ⟨t.toArray⟩, .string ⟨#[]⟩, .bool true]) (by simp [results, Tryd.results5, go_sem]) rfl ⟨.inl ⟨t, HR.out, HL.out, rfl⟩, below_drewNv HB1.out _⟩
  · have hb1 := HB0.out.trans (hb.mono HB0.out.size)
    have HR := Lib.hid hr
    have HB1 := Lib.hid hb1
    have hc2 := cv_none
    clear hr hb hb1 hcv
    go_wp2_with fail
    go_quiet (fail)
    go_wp2_with fail
    exact bodyPost_ret (v := .tuple #[.string ⟨#[]⟩, .string ⟨#[]⟩, .bool false]) (by simp [results, Tryd.results5, go_sem]) rfl ⟨.inr ⟨HR.out, rfl⟩, below_drewNv HB1.out _⟩
theorem reads_a {t : List UInt8} : Reads [97] [] t ↔ t = [97] := by
  have h1 : tokK [97] = some ([97], 1) := by
    have hd : Lib.decodeL [97] = (97, 1) := Lib.decodeL_ascii 97 [] (by decide)
    have hn : nrK [97] = some (97, 1) := by unfold nrK; rw [hd]; simp
    unfold tokK
    rw [hn]
    rfl
  rw [reads_step (by simp) h1]
  exact reads_nil
theorem r7_6 (w : World) (hT : Tabs w) : Calls Tryd.prog 6 #[] w fun e w' => e = .returned (.bool true) ∧ Below w.heap.size w w' := by
  have h5 := ue_5 ⟨#[97]⟩ (by decide) w hT
  have H5 := Lib.hid h5
  clear h5 hT
  go_enter Tryd.func6, Tryd.ntmps6
  go_wp2_with fail
  refine H5.out.mono ?_
  rintro e w1 ⟨⟨t, hr, _, rfl⟩ | ⟨hr, rfl⟩, hb⟩
  · obtain rfl := reads_a.1 hr
    clear hr
    go_wp2_with fail
    go_ret
    exact ⟨rfl, hb⟩
  · exact absurd ⟨_, reads_a.2 rfl⟩ hr
set_option maxHeartbeats 1000000 in
theorem le_4 (s : ByteArray) (hs : s.size ≤ 10000) (w : World) (hT : Tabs w) : Calls Tryd.prog 4 #[.string s] w fun e w' => (∃ B, e = .returned (.bool B)) ∧ Below w.heap.size w w' := by
  have h7 := Tryd.utf8_ValidString s w (by omega) hT.1
  obtain ⟨V, hV⟩ : ∃ V, Lib.validD s.data.toList = V := ⟨_, rfl⟩
  rw [hV] at h7
  have H7 := Lib.hid h7
  clear h7 hT hV
  go_enter Tryd.func4, Tryd.ntmps4
  go_wp2_with fail
  go_loopw [3] (fun a wr => ∃ k : Nat, k ≤ s.size ∧ a = .int .i64 (k : Int) ∧ wr = w) (fun a _ => s.size - lst a)
  case atStart => exact ⟨0, by omega, rfl, rfl⟩
  case round =>
    obtain ⟨k, hk, rfl, rfl⟩ := hrel
    rcases Nat.lt_or_ge (k + 2) s.size with hlt | hge
    · have e1 : ((k : Int) + 3).toNat = k + 3 := by omega
      have e2 : (0 : Int) ≤ (k : Int) + 3 := by omega
      have e3 : k + 3 ≤ s.size := by omega
      have e4 : (k : Int) ≤ (k : Int) + 3 := by omega
      have e5 : (k : Int) + 3 ≤ (s.size : Int) := by omega
      go_wp2_with fail
      · go_ret
        exact ⟨⟨_, rfl⟩, Below.refl _ _⟩
      · go_round
        case rel => exact ⟨k + 1, by omega, by go_num, trivial⟩
        case measure => simp [lst]; omega
    · go_wp2_with fail
      refine H7.out.mono ?_
      rintro e w1 ⟨rfl, hb⟩
      go_wp2_with fail
      go_ret
      exact ⟨⟨V, rfl⟩, hb⟩
end Go.Proofs.YtbgmlpckamnnaaaDoor
