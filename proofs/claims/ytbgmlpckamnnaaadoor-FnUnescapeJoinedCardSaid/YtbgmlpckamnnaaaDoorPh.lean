/-
  What the two escapes' functions return. Lemmas for this seat's law.
-/
import Derived.Test.YtbgmlpckamnnaaaDoorNr
namespace Go.Proofs.YtbgmlpckamnnaaaDoor
open Go.ChangeShapes Go.WideShapes Go.ChangeAt Go.RowKit
set_option linter.unusedVariables false

/-- Behind '\x': two digits; the number and how many bytes. -/
def phK (l : List UInt8) : Option (Int × Nat) :=
  match nrK l with
  | none => none
  | some (c1, k1) => if hexB c1 then
      (match nrK (l.drop k1) with
      | none => none
      | some (c2, k2) => if hexB c2 then (if 16 * dvI c1 + dvI c2 > 127 then none else some (16 * dvI c1 + dvI c2, k1 + k2)) else none)
    else none
theorem dv_bds (c : Int) : 0 ≤ dvI c ∧ dvI c ≤ 16 := by
  unfold dvI; split
  · omega
  · split <;> omega

/-- A contract's result: what is read, and where it ends. -/
def Got (N : Option (Int × Nat)) (i : Nat) (e : Ending) : Prop :=
  (∃ v k, N = some (v, k) ∧ e = .returned (.tuple #[.int .i32 v, .int .i64 ((i + k : Nat) : Int), .nilIface])) ∨ (N = none ∧ ∃ v j t u, e = .returned (.tuple #[.int .i32 v, .int .i64 j, .iface t u]))

def NrC (s : ByteArray) (b cap : Nat) : Prop := ∀ (i : Nat), i ≤ s.size → ∀ w : World, Tabs w → Bts w b s →
    Calls Tryd.prog 10 #[.slice (some ⟨b, 0, none⟩) s.size cap, .int .i64 (i : Int)] w fun e w' => ((∃ r k, nrK (s.data.toList.drop i) = some (r, k) ∧ e = .returned (.tuple #[.int .i32 (r : Int), .int .i64 ((i + k : Nat) : Int), .nilIface])) ∨ (nrK (s.data.toList.drop i) = none ∧ ∃ t u, e = .returned (.tuple #[.int .i32 65533, .int .i64 (i : Int), .iface t u]))) ∧ Below w.heap.size w w'
theorem nrK_le {s : ByteArray} {i r k : Nat} (hi : i ≤ s.size) (h : nrK (s.data.toList.drop i) = some (r, k)) : i + k ≤ s.size ∧ 1 ≤ k ∧ r ≤ 1114111 := by
  obtain ⟨_, _, _, h4, h5, h6⟩ := nrK_some h
  rw [List.length_drop, show s.data.toList.length = s.size from rfl] at h6
  exact ⟨by omega, h5, h4⟩
theorem drop_drop' {s : ByteArray} (i k : Nat) : (s.data.toList.drop i).drop k = s.data.toList.drop (i + k) := by rw [List.drop_drop]

set_option maxHeartbeats 1000000 in
theorem ph_13 (s : ByteArray) (hs : s.size ≤ 1000000) (b cap : Nat) (hC : NrC s b cap) (i : Nat) (hi : i ≤ s.size) (w : World) (hT : Tabs w) (hB : Bts w b s) :
    Calls Tryd.prog 13 #[.slice (some ⟨b, 0, none⟩) s.size cap, .int .i64 (i : Int)] w fun e w' => Got (phK (s.data.toList.drop i)) i e ∧ Below w.heap.size w w' := by
  have HC := Lib.hid hC
  have HT := Lib.hid hT
  have HB := Lib.hid hB
  have HE := Lib.hid err_15
  have HH := Lib.hid hex_19
  have HD := Lib.hid dv_20
  clear hC hT hB
  go_enter Tryd.func13, Tryd.ntmps13
  go_wp2_with fail
  refine (HC.out i hi _ HT.out HB.out).mono ?_
  rintro e w1 ⟨⟨r, k, hn, rfl⟩ | ⟨hn, t, u, rfl⟩, hb⟩
  · have HN := Lib.hid hn
    obtain ⟨hk1, hk2, hk3⟩ := nrK_le hi hn
    clear hn
    go_wp2_with fail
    refine (HH.out _ _).mono ?_
    rintro e w1' ⟨rfl, rfl⟩
    rcases hx : hexB (r : Int) with _ | _
    · have HX := Lib.hid hx
      clear hx
      go_wp2_with fail
      refine (HE.out _ _).mono ?_
      rintro e w2 ⟨⟨t, u, rfl⟩, hb2⟩
      go_wp2_with fail
      exact bodyPost_ret (v := .tuple #[.int .i32 0, .int .i64 ((i + k : Nat) : Int), .iface t u]) (by simp [results, Tryd.results13, go_sem]) rfl ⟨.inr ⟨by simp [phK, HN.out, HX.out], _, _, _, _, rfl⟩, hb.trans (hb2.mono hb.size)⟩
    · have HX := Lib.hid hx
      clear hx
      have hv := dv_bds (r : Int)
      go_wp2_with fail
      refine (HD.out _ _).mono ?_
      rintro e w1'' ⟨rfl, rfl⟩
      go_wp2_with fail
      refine (HC.out (i + k) hk1 _ (HT.out.on hb) (HB.out.on hb)).mono ?_
      rintro e w2 ⟨⟨r2, k2, hn, rfl⟩ | ⟨hn, t, u, rfl⟩, hb2⟩
      · have HN2 := Lib.hid hn
        obtain ⟨hk4, hk5, hk6⟩ := nrK_le hk1 hn
        clear hn
        go_wp2_with fail
        refine (HH.out _ _).mono ?_
        rintro e w2' ⟨rfl, rfl⟩
        rcases hx : hexB (r2 : Int) with _ | _
        · have HX2 := Lib.hid hx
          clear hx
          go_wp2_with fail
          refine (HE.out _ _).mono ?_
          rintro e w3 ⟨⟨t, u, rfl⟩, hb3⟩
          go_wp2_with fail
          exact bodyPost_ret (v := .tuple #[.int .i32 0, .int .i64 ((i + k + k2 : Nat) : Int), .iface t u]) (by simp [results, Tryd.results13, go_sem]) rfl ⟨.inr ⟨by simp [phK, HN.out, HX.out, HN2.out, HX2.out], _, _, _, _, rfl⟩, hb.trans ((hb2.trans (hb3.mono hb2.size)).mono hb.size)⟩
        · have HX2 := Lib.hid hx
          clear hx
          have hv2 := dv_bds (r2 : Int)
          go_wp2_with fail
          refine (HD.out _ _).mono ?_
          rintro e w2'' ⟨rfl, rfl⟩
          by_cases hbig : 16 * dvI (r : Int) + dvI (r2 : Int) > 127
          · go_wp2_with fail
            refine (HE.out _ _).mono ?_
            rintro e w3 ⟨⟨t, u, rfl⟩, hb3⟩
            go_wp2_with fail
            exact bodyPost_ret (v := .tuple #[.int .i32 0, .int .i64 ((i + k + k2 : Nat) : Int), .iface t u]) (by simp [results, Tryd.results13, go_sem]) rfl ⟨.inr ⟨by simp [phK, HN.out, HX.out, HN2.out, HX2.out, hbig], _, _, _, _, rfl⟩, hb.trans ((hb2.trans (hb3.mono hb2.size)).mono hb.size)⟩
          · go_wp2_with fail
            exact bodyPost_ret (v := .tuple #[.int .i32 (16 * dvI (r : Int) + dvI (r2 : Int)), .int .i64 ((i + k + k2 : Nat) : Int), .nilIface]) (by simp [results, Tryd.results13, go_sem]) rfl ⟨.inl ⟨16 * dvI (r : Int) + dvI (r2 : Int), k + k2, by simp [phK, HN.out, HX.out, HN2.out, HX2.out, hbig], by rw [Nat.add_assoc]⟩, hb.trans (hb2.mono hb.size)⟩
      · have HN2 := Lib.hid hn
        clear hn
        go_wp2_with fail
        exact bodyPost_ret (v := .tuple #[.int .i32 0, .int .i64 ((i + k : Nat) : Int), .iface t u]) (by simp [results, Tryd.results13, go_sem]) rfl ⟨.inr ⟨by simp [phK, HN.out, HX.out, HN2.out], _, _, _, _, rfl⟩, hb.trans (hb2.mono hb.size)⟩
  · have HN := Lib.hid hn
    clear hn
    go_wp2_with fail
    exact bodyPost_ret (v := .tuple #[.int .i32 0, .int .i64 (i : Int), .iface t u]) (by simp [results, Tryd.results13, go_sem]) rfl ⟨.inr ⟨by simp [phK, HN.out], _, _, _, _, rfl⟩, hb⟩
end Go.Proofs.YtbgmlpckamnnaaaDoor
