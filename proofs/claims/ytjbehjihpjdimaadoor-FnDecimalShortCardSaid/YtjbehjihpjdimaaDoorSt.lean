/-
  What Decimal.String returns. Lemmas for this seat's law.
-/
import Derived.Test.YtjbehjihpjdimaaDoorF4
import Derived.Lib.ItoaLen
import Derived.Maps.AppendAt
import Derived.Deep.RegionHeld3
namespace Go.Proofs.YtjbehjihpjdimaaDoor
open Go.ChangeShapes Go.WideShapes Go.ChangeAt Go.RowKit
set_option linter.unusedVariables false

/-- The whole text: a sign, the whole part, a point, four digits. -/
def body (u : Nat) : List UInt8 := Lib.decDigits (u / 10000) ++ 46 :: four (u % 10000)
def full (v : Int) : List UInt8 := (if v < 0 then [45] else []) ++ body v.natAbs
theorem dec_size (u : Nat) (h : u < 18446744073709551616) : (Lib.decDigits u).length ≤ 20 := by rw [Lib.decDigits_length]; exact Lib.nDigits_le20 u h
theorem bapp (a b : List UInt8) : bstr a ++ bstr b = bstr (a ++ b) := by
  apply ByteArray.ext
  simp [bstr, ByteArray.data_append]
theorem neg_text (u : Nat) (h : 0 < u) : (⟨#[45]⟩ : ByteArray) ++ bstr (Lib.itoa ((u : Int) / 10000)) ++ (⟨#[46]⟩ : ByteArray) ++ bstr (four (u % 10000)) = bstr (full (-(u : Int))) := by
  rw [show (u : Int) / 10000 = ((u / 10000 : Nat) : Int) by omega, Lib.itoa_nonneg, full, if_pos (by omega), Int.natAbs_neg, Int.natAbs_natCast]
  apply ByteArray.ext
  simp [bstr, ByteArray.data_append, body]
theorem pos_text (u : Nat) : bstr (Lib.itoa ((u : Int) / 10000)) ++ (⟨#[46]⟩ : ByteArray) ++ bstr (four (u % 10000)) = bstr (full (u : Int)) := by
  rw [show (u : Int) / 10000 = ((u / 10000 : Nat) : Int) by omega, Lib.itoa_nonneg, full, if_neg (by omega), Int.natAbs_natCast]
  apply ByteArray.ext
  simp [bstr, ByteArray.data_append, body]
theorem cell_new (w : World) (v : Value) (t : TypeId) : (w.alloc (.cells #[v] t)).cell? ⟨w.heap.size, 0, none⟩ = some v := cell_one_new w v t 0 v rfl
theorem four_size (r : Nat) (h : r < 10000) : (bstr (four r)).size = 4 := by
  have : (Lib.decDigits r).length ≤ 4 := by rw [Lib.decDigits_length]; exact nDig_le (by omega) (by decide)
  rw [four, pad_size]; omega
theorem itoa_size (n : Int) (h0 : -9223372036854775808 ≤ n) (h1 : n ≤ 9223372036854775807) : (bstr (Lib.itoa n)).size ≤ 21 := by rw [bstr_size]; exact Lib.itoa_length_le n h0 h1
theorem full_size (v : Int) (h0 : -9223372036854775808 ≤ v) (h1 : v ≤ 9223372036854775807) : 6 ≤ (bstr (full v)).size ∧ (bstr (full v)).size ≤ 27 := by
  have f2 := four_size (v.natAbs % 10000) (by omega)
  have f1 := dec_size (v.natAbs / 10000) (by omega)
  have f3 := Lib.nDigits_pos (v.natAbs / 10000)
  rw [← Lib.decDigits_length] at f3
  rw [bstr_size] at f2 ⊢
  unfold full body
  simp only [List.length_append, List.length_cons, f2]
  split <;> simp <;> omega
def Cut (T : ByteArray) (e : Ending) : Prop := ∃ m, ∃ h : m < T.size, e = .returned (.string (T.extract 0 (m + 1))) ∧ T.size ≤ m + 4 ∧ (T.size = m + 4 ∨ T[m] ≠ 48)
def lst : Value → Nat
  | .int _ n => n.toNat
  | _ => 0

structure St (w w0 w' : World) : Prop where
  tab : Tab w'
  bel : Below w0.heap.size w0 w'
  big : w.heap.size < w0.heap.size
theorem St.next {w w0 w1 w2 : World} {v : Value} (h : w1.cell? ⟨w.heap.size, 0, none⟩ = some v ∧ St w w0 w1) (hb : Below w1.heap.size w1 w2) : w2.cell? ⟨w.heap.size, 0, none⟩ = some v ∧ St w w0 w2 :=
  ⟨(hb.cell (p := ⟨w.heap.size, 0, none⟩) (by show w.heap.size < w1.heap.size; have := h.2.bel.size; have := h.2.big; omega)).trans h.1, h.2.tab.on hb, h.2.bel.trans (hb.mono h.2.bel.size), h.2.big⟩
theorem fi_u (u : Nat) (h1 : (u : Int) ≤ 9223372036854775807) (w : World) (ht : Tab w) : Calls Tryd.prog 7 #[.int .i64 ((u : Int) / 10000), .int .i64 10] w fun e w' => e = .returned (.string (bstr (Lib.itoa ((u : Int) / 10000)))) ∧ Below w.heap.size w w' :=
  fi_7 ((u : Int) / 10000) (by omega) (by omega) w ht
theorem z4_u (u : Nat) (w : World) (ht : Tab w) : Calls Tryd.prog 8 #[.int .i64 ((u : Int) % 10000)] w fun e w' => e = .returned (.string (bstr (four (u % 10000)))) ∧ Below w.heap.size w w' := by
  rw [show (u : Int) % 10000 = ((u % 10000 : Nat) : Int) by omega]
  exact z4_8 (u % 10000) (by omega) w ht
theorem st_6 (v : Int) (h0 : -9223372036854775808 ≤ v) (h1 : v ≤ 9223372036854775807) (w : World) (ht : Tab w) :
    Calls Tryd.prog 6 #[.agg #[.int .i64 v]] w fun e w' => Cut (bstr (full v)) e ∧ Below w.heap.size w w' := by
  have ht0 : Tab (w.alloc (.cells #[.int .i64 v] 25)) := Lib.tabIs_alloc ht _
  have c0 := cell_new w (.int .i64 v) 25
  have hsz := full_size v h0 h1
  have HB : Hid (Below w.heap.size w (w.alloc (.cells #[.int .i64 v] 25))) := (Below.refl _ _).alloc (Nat.le_refl _) _
  by_cases hneg : v < 0
  · obtain ⟨u, rfl⟩ : ∃ u : Nat, v = -(u : Int) := ⟨v.natAbs, by omega⟩
    have hpos : 0 < u := by omega
    have f1 := itoa_size ((u : Int) / 10000) (by omega) (by omega)
    have f2 := four_size (u % 10000) (by omega)
    have h7 := fun w' (hw : Tab w') => fi_7 ((u / 10000 : Nat) : Int) (by omega) (by omega) w' hw
    have h8 := fun w' (hw : Tab w') => z4_8 (u % 10000) (by omega) w' hw
    have H7 := Lib.hid h7
    have H8 := Lib.hid h8
    have HT := Lib.hid ht0
    have HS := Lib.hid hsz
    have e1 : -((u : Int) / 10000) * 10000 + u = ((u % 10000 : Nat) : Int) := by omega
    have E1 := Lib.hid e1
    have e2 : (1 : Int) + ((bstr (Lib.itoa ((u : Int) / 10000))).size : Int) + 1 + 4 = ((bstr (full (-(u : Int)))).size : Int) := by
      rw [← neg_text u hpos]; simp [f2]; rfl
    have E2 := Lib.hid e2
    clear ht ht0 h7 h8 hsz e1 e2
    go_enter Tryd.func6, Tryd.ntmps6
    go_wp2_with fail
    refine (H7.out _ HT.out).mono ?_
    rintro e w1 ⟨rfl, hb⟩
    go_wp2_with fail
    rw [E1.out]
    refine (H8.out _ (HT.out.on hb)).mono ?_
    rintro e w2 ⟨rfl, hb2⟩
    go_wp2_with fail
    rw [neg_text u hpos, E2.out]
    obtain ⟨T, hT⟩ : ∃ T, bstr (full (-(u : Int))) = T := ⟨_, rfl⟩
    rw [hT] at HS ⊢
    have HT9 := Lib.hid hT
    clear hT H7 H8 HT E1 E2 f1 f2
    have hs1 := HS.out.1
    have hs2 := HS.out.2
    have hbb : Below w.heap.size w w2 := HB.out.trans ((hb.trans (hb2.mono hb.size)).mono (by simp))
    go_loopw [6, 7] (fun a b wr => ∃ m k : Nat, m + 1 + k = T.size ∧ k ≤ 3 ∧ a = .int .i64 ((m : Int) + 1) ∧ b = .int .i64 (k : Int) ∧ wr = w2) (fun a _ _ => lst a)
    case atStart => exact ⟨T.size - 1, 0, by omega, by omega, by go_num, rfl, rfl⟩
    case round =>
      obtain ⟨m, k, hmk, hk, rfl, rfl, rfl⟩ := hrel
      rcases Nat.lt_or_ge k 3 with hk3 | hk3
      · have hm : m < T.size := by omega
        by_cases hz : (T[m]).toNat = 48
        · go_wp2_with fail
          go_round
          case rel => exact ⟨m - 1, k + 1, by omega, by omega, by go_num, by go_num, trivial⟩
          case measure => simp [lst]
        · go_wp2_with fail
          go_ret
          refine ⟨?_, hbb⟩
          rw [HT9.out]
          exact ⟨m, hm, rfl, by omega, .inr (fun e => hz (by rw [e]; rfl))⟩
      · go_wp2_with fail
        go_ret
        refine ⟨?_, hbb⟩
        rw [HT9.out]
        exact ⟨m, by omega, rfl, by omega, .inl (by omega)⟩
  · obtain ⟨u, rfl⟩ : ∃ u : Nat, v = (u : Int) := ⟨v.toNat, by omega⟩
    have f1 := itoa_size ((u : Int) / 10000) (by omega) (by omega)
    have f2 := four_size (u % 10000) (by omega)
    have f3 : IntKind.i64.wrap ((u : Int) / 10000) = (u : Int) / 10000 := IntWalk.i64_in _ (by omega)
    have f4 : IntKind.i64.wrap ((u : Int) % 10000) = (u : Int) % 10000 := IntWalk.i64_in _ (by omega)
    have c1 : (w.alloc (.cells #[.int .i64 (u : Int)] 25)).drew.cell? ⟨w.heap.size, 0, none⟩ = some (.int .i64 (u : Int)) := c0
    have f5 : ¬ 9223372036854775807 < (bstr (Lib.itoa ((u : Int) / 10000))).size + 1 := by omega
    have f6 : ¬ 9223372036854775807 < (bstr (Lib.itoa ((u : Int) / 10000))).size + 1 + 4 := by omega
    have HS0 : St w (w.alloc (.cells #[.int .i64 (u : Int)] 25)) (w.alloc (.cells #[.int .i64 (u : Int)] 25)).drew := ⟨ht0.on (Below.refl _ _).drew, (Below.refl _ _).drew, by simp⟩
    have e2 : ((bstr (Lib.itoa ((u : Int) / 10000))).size : Int) + 1 + 4 = ((bstr (full (u : Int))).size : Int) := by
      rw [← pos_text u]; simp [f2]; rfl
    have E2 := Lib.hid e2
    have HS := Lib.hid hsz
    clear ht ht0 hsz e2
    go_enter Tryd.func6, Tryd.ntmps6
    go_wp2_with fail
    go_region_held3 (fun w' => w'.cell? ⟨w.heap.size, 0, none⟩ = some (.int .i64 (u : Int)) ∧ St w (w.alloc (.cells #[.int .i64 (u : Int)] 25)) w')
      (first | exact ⟨c1, HS0⟩ | exact St.next (by assumption) hb')
      (first | (go_at_call 7; refine (fi_u u h1 _ (St.tab (And.right (by assumption)))).mono ?_; rintro e w' ⟨rfl, hb'⟩) | (go_at_call 8; refine (z4_u u _ (St.tab (And.right (by assumption)))).mono ?_; rintro e w' ⟨rfl, hb'⟩))
    rename_i hh
    obtain ⟨w2, rfl⟩ : ∃ x : World, x = w' := ⟨_, rfl⟩
    go_wp2_with fail
    rw [pos_text u, E2.out]
    obtain ⟨T, hT⟩ : ∃ T, bstr (full (u : Int)) = T := ⟨_, rfl⟩
    rw [hT] at HS ⊢
    have HT9 := Lib.hid hT
    clear hT E2 f1 f2 f3 f4 f5 f6 c1 HS0
    have hs1 := HS.out.1
    have hs2 := HS.out.2
    have hbb : Below w.heap.size w w2 := HB.out.trans (hh.2.bel.mono (by simp))
    clear hh
    go_loopw [6, 7] (fun a b wr => ∃ m k : Nat, m + 1 + k = T.size ∧ k ≤ 3 ∧ a = .int .i64 ((m : Int) + 1) ∧ b = .int .i64 (k : Int) ∧ wr = w2) (fun a _ _ => lst a)
    case atStart => exact ⟨T.size - 1, 0, by omega, by omega, by go_num, rfl, rfl⟩
    case round =>
      obtain ⟨m, k, hmk, hk, rfl, rfl, rfl⟩ := hrel
      rcases Nat.lt_or_ge k 3 with hk3 | hk3
      · have hm : m < T.size := by omega
        by_cases hz : (T[m]).toNat = 48
        · go_wp2_with fail
          go_round
          case rel => exact ⟨m - 1, k + 1, by omega, by omega, by go_num, by go_num, trivial⟩
          case measure => simp [lst]
        · go_wp2_with fail
          go_ret
          refine ⟨?_, hbb⟩
          rw [HT9.out]
          exact ⟨m, hm, rfl, by omega, .inr (fun e => hz (by rw [e]; rfl))⟩
      · go_wp2_with fail
        go_ret
        refine ⟨?_, hbb⟩
        rw [HT9.out]
        exact ⟨m, by omega, rfl, by omega, .inl (by omega)⟩
end Go.Proofs.YtjbehjihpjdimaaDoor
