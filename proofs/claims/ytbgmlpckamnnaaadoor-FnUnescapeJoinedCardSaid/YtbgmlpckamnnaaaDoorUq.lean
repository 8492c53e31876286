/-
  What rust.Unquote returns (without a star). Lemmas for this seat's law.
-/
import Derived.Test.YtbgmlpckamnnaaaDoorRd
import Derived.Deep.RegionHeld3
namespace Go.Proofs.YtbgmlpckamnnaaaDoor
open Go.ChangeShapes Go.WideShapes Go.ChangeAt Go.RowKit
set_option linter.unusedVariables false

theorem blt_on {B bl : Nat} {bs : List Value} {w w' : World} (h : Lib.IsBuilderF 40 5 B bl bs w) (hb : Below w.heap.size w w') : Lib.IsBuilderF 40 5 B bl bs w' := by
  have one : ∀ p, Lib.BuilderAtF 40 5 B bl p bs w → Lib.BuilderAtF 40 5 B bl p bs w' := by
    rintro p h
    have hlt := h.lt
    obtain ⟨h1, v, h2, h3, h4⟩ := h
    refine ⟨h1, v, by rw [hb.block _ hlt]; exact h2, World.ownsRowF.kept (row := none) h3 ⟨hb.os, hb.tape, hb.output, hb.size, fun k hk _ => hb.block k hk⟩ ?_, h4⟩
    cases v.ownBlock with
    | none => exact .inl rfl
    | some x => exact .inr (by simp)
  exact h.imp (one _) (one _)
theorem wr_12 (B : Nat) (acc : List UInt8) (r : Int) (h0 : -2147483648 ≤ r) (h1 : r ≤ 2147483647) (w : World) (h : Lib.IsBuilderF 40 5 B B (Lib.byteCells acc) w) (hl : acc.length ≤ 4000000) (hB : B ≤ w.heap.size) :
    Calls Tryd.prog 12 #[.pointer (some ⟨B, 0, none⟩), .int .i32 r] w fun e w' => (∃ v, e = .returned v) ∧ Lib.IsBuilderF 40 5 B B (Lib.byteCells (acc ++ Lib.encodeRune r)) w' ∧ Below B w w' := by
  refine (Tryd.Builder_WriteRune_k B B _ r h0 h1 w h (by simp [Lib.byteCells]; omega) hB).mono ?_
  rintro e w' ⟨rfl, h2, h3, _⟩
  refine ⟨⟨_, rfl⟩, ?_, h3⟩
  rw [Lib.byteCells_append, Lib.byteCells_encodeRune]
  exact .inr h2
def Inv (L l acc : List UInt8) : Prop := ∀ t, Reads L [] t ↔ Reads l acc t
theorem Inv.step {s : ByteArray} {L acc o : List UInt8} {i n : Nat} (h : Inv L (s.data.toList.drop i) acc) (ht : tokK (s.data.toList.drop i) = some (o, n)) : Inv L (s.data.toList.drop (i + n)) (acc ++ o) := by
  have h0 : s.data.toList.drop i ≠ [] := by
    intro e; rw [e] at ht; cases ht
  intro t
  rw [h t, reads_step h0 ht, List.drop_drop]
theorem Inv.none {s : ByteArray} {L acc : List UInt8} {i : Nat} (hi : i < s.size) (h : Inv L (s.data.toList.drop i) acc) (ht : tokK (s.data.toList.drop i) = none) : ¬ ∃ t, Reads L [] t := by
  have h0 : s.data.toList.drop i ≠ [] := by
    intro e
    have := congrArg List.length e
    rw [List.length_drop, show s.data.toList.length = s.size from rfl] at this
    simp at this; omega
  rintro ⟨t, hr⟩
  exact reads_none h0 ht ((h t).1 hr)
theorem Inv.fin {s : ByteArray} {L acc : List UInt8} (h : Inv L (s.data.toList.drop s.size) acc) : Reads L [] acc := by
  exact (h acc).2 (by rw [List.drop_of_length_le (by exact Nat.le_refl _)]; exact .nil _)
/-- Unquote's result. -/
def UQ (L : List UInt8) (e : Ending) : Prop :=
  (∃ t a c, Reads L [] t ∧ t.length ≤ 4 * L.length ∧ e = .returned (.tuple #[.string ⟨t.toArray⟩, .slice (some a) 0 c, .nilIface])) ∨ ((¬ ∃ t, Reads L [] t) ∧ ∃ t u, e = .returned (.tuple #[.string ⟨#[]⟩, .slice none 0 0, .iface t u]))
def UqC (s : ByteArray) (b cap : Nat) (f : Nat) (K : List UInt8 → Option (Int × Nat)) : Prop := ∀ (i : Nat), i ≤ s.size → ∀ w : World, Tabs w → Bts w b s →
    Calls Tryd.prog f #[.slice (some ⟨b, 0, none⟩) s.size cap, .int .i64 (i : Int)] w fun e w' => Got (K (s.data.toList.drop i)) i e ∧ Below w.heap.size w w'
theorem enc_bd (r : Int) : (Lib.encodeRune r).length ≤ 4 := encB r
theorem Got_some {v k i e N} (h : Got N i e) (hN : N = some (v, k)) : e = .returned (.tuple #[.int .i32 v, .int .i64 ((i + k : Nat) : Int), .nilIface]) := by
  rcases h with ⟨v', k', h1, h2⟩ | ⟨h1, _⟩
  · rw [hN] at h1
    obtain ⟨rfl, rfl⟩ := Prod.mk.injEq .. ▸ Option.some.inj h1
    exact h2
  · rw [hN] at h1; cases h1
theorem Got_none {i e N} (h : Got N i e) (hN : N = none) : ∃ v j t u, e = .returned (.tuple #[.int .i32 v, .int .i64 j, .iface t u]) := by
  rcases h with ⟨v', k', h1, h2⟩ | ⟨_, h2⟩
  · rw [hN] at h1; cases h1
  · exact h2
structure Sb (w : World) (acc : List UInt8) (w' : World) : Prop where
  bld : Lib.IsBuilderF 40 5 w.heap.size w.heap.size (Lib.byteCells acc) w'
  bel : Below w.heap.size w w'
  sz : w.heap.size < w'.heap.size
theorem Sb.drew {w : World} {acc : List UInt8} {w' : World} (h : Sb w acc w') : Sb w acc w'.drew :=
  ⟨blt_on h.bld (Below.refl _ _).drew, h.bel.drew, h.sz⟩
theorem st_11 {w : World} {acc : List UInt8} {w1 : World} (h : Sb w acc w1) : Calls Tryd.prog 11 #[.pointer (some ⟨w.heap.size, 0, none⟩)] w1 fun e w' => e = .returned (.string ⟨acc.toArray⟩) ∧ Sb w acc w' := by
  refine (Tryd.Builder_String_any_k w.heap.size w.heap.size acc w1 h.bld (by have := h.sz; omega)).mono ?_
  rintro e w' ⟨rfl, h1, h2, _⟩
  exact ⟨rfl, h1, h.bel.trans h2, by have := h2.size; have := h.sz; omega⟩
def lst : Value → Nat
  | .int _ n => n.toNat
  | _ => 0
theorem validRune_bd {v : Int} (h : Lib.validRune v = true) : 0 ≤ v ∧ v ≤ 1114111 := by
  simp [Lib.validRune] at h; omega
theorem puK_v {l : List UInt8} {v : Int} {k : Nat} (h : puK l = some (v, k)) : 0 ≤ v ∧ v ≤ 1114111 := by
  unfold puK at h
  cases hn : nrK l with
  | none => rw [hn] at h; cases h
  | some y =>
    obtain ⟨r, j⟩ := y
    rw [hn] at h
    simp only at h
    split at h
    · cases hp : puL l.length (l.drop j) 0 0 j with
      | none => rw [hp] at h; cases h
      | some x =>
        obtain ⟨d, v', q⟩ := x
        rw [hp] at h
        unfold puE at h
        simp only at h
        split at h
        · cases h
        · rename_i hv
          simp only [Option.some.injEq, Prod.mk.injEq] at h
          obtain ⟨rfl, rfl⟩ := h
          exact validRune_bd (by cases hq : Lib.validRune (c32 v') <;> simp_all)
    · cases h
set_option maxRecDepth 100000 in
set_option maxHeartbeats 8000000 in
theorem uq_8 (s : ByteArray) (hs : s.size ≤ 10000) (b cap : Nat) (hcap : s.size ≤ cap) (w : World) (hT : Tabs w) (hB : Bts w b s) :
    Calls Tryd.prog 8 #[.slice (some ⟨b, 0, none⟩) s.size cap, .bool false] w fun e w' => UQ s.data.toList e ∧ Below w.heap.size w w' := by
  have hC : NrC s b cap := fun i hi w hT hB => nr_10 s (by omega) b cap hcap i hi w hT hB
  have HP : Hid (UqC s b cap 13 phK) := fun i hi w hT hB => ph_13 s (by omega) b cap hC i hi w hT hB
  have HU : Hid (UqC s b cap 14 puK) := fun i hi w hT hB => pu_14 s (by omega) b cap hC i hi w hT hB
  have HC := Lib.hid hC
  have HT := Lib.hid hT
  have HB := Lib.hid hB
  have HE := Lib.hid err_15
  have HW := Lib.hid (wr_12 w.heap.size)
  have HS := Lib.hid (Tryd.Builder_String_any_k w.heap.size w.heap.size)
  have HF : Hid (Lib.IsBuilderF 40 5 w.heap.size w.heap.size (Lib.byteCells []) (w.alloc (.cells #[.pointer none, .slice none 0 0] 40))) := Lib.IsBuilderF.of (Lib.fresh_isBuilder 40 5 w)
  have HI0 : Hid (Inv s.data.toList (s.data.toList.drop 0) []) := fun t => by simp
  clear hC hT hB
  go_enter Tryd.func8, Tryd.ntmps8
  go_wp2_with fail
  go_loopw [10] (fun a wr => ∃ (i : Nat) (acc : List UInt8), i ≤ s.size ∧ a = .int .i64 (i : Int) ∧ Hid (Inv s.data.toList (s.data.toList.drop i) acc) ∧ acc.length ≤ 4 * i ∧ Hid (Lib.IsBuilderF 40 5 w.heap.size w.heap.size (Lib.byteCells acc) wr) ∧ Below w.heap.size w wr ∧ w.heap.size < wr.heap.size) (fun a _ => s.size - lst a)
  case atStart => exact ⟨0, [], by omega, rfl, HI0, by simp, HF, (Below.refl _ _).alloc (Nat.le_refl _) _, by simp⟩
  case round =>
    obtain ⟨i, acc, hi, rfl, HI, hacc, HBld, hb1, hsz⟩ := hrel
    rcases Nat.lt_or_ge i s.size with hlt | hge
    · go_wp2_with fail
      refine (HC.out i hi _ (HT.out.on hb1) (HB.out.on hb1)).mono ?_
      rintro e w2 ⟨⟨c, k, hn, rfl⟩ | ⟨hn, t, u, rfl⟩, hb2⟩
      · obtain ⟨hk1, hk2, hk3⟩ := nrK_le hi hn
        have HB2 : Hid (Lib.IsBuilderF 40 5 w.heap.size w.heap.size (Lib.byteCells acc) w2) := blt_on HBld.out hb2
        have hb12 : Below w.heap.size w w2 := hb1.trans (hb2.mono (by omega))
        have hsz2 : w.heap.size < w2.heap.size := by have := hb2.size; omega
        clear HBld
        have HN := Lib.hid hn
        clear hn
        by_cases h92 : c = 92
        · subst h92
          go_wp2_with fail
          refine (HC.out (i + k) hk1 _ (HT.out.on hb12) (HB.out.on hb12)).mono ?_
          rintro e w3 ⟨⟨c2, k2, hn2, rfl⟩ | ⟨hn2, t, u, rfl⟩, hb3⟩
          · obtain ⟨hk4, hk5, hk6⟩ := nrK_le hk1 hn2
            have HB3 : Hid (Lib.IsBuilderF 40 5 w.heap.size w.heap.size (Lib.byteCells acc) w3) := blt_on HB2.out hb3
            have hb13 : Below w.heap.size w w3 := hb12.trans (hb3.mono (by omega))
            have hsz3 : w.heap.size < w3.heap.size := by have := hb3.size; omega
            have HTok : Hid (tokK (s.data.toList.drop i) = escK c2 (k + k2) (s.data.toList.drop (i + (k + k2)))) := by
              show _ = _
              simp only [tokK, HN.out, if_pos, List.drop_drop, hn2]
            clear hn2 HB2
            by_cases h110 : c2 = 110
            · subst h110
              go_wp2_with fail
              refine (HW.out acc 10 (by decide) (by decide) _ HB3.out (by omega) (by omega)).mono ?_
              rintro e w4 ⟨⟨v, rfl⟩, hI4, hb4⟩
              have HI4 := Lib.hid hI4
              clear hI4
              go_wp2_with fail
              go_round
              case rel => exact ⟨i + (k + k2), acc ++ Lib.encodeRune 10, by omega, by go_num, Inv.step HI.out (by rw [HTok.out]; rfl), by have := enc_bd 10; rw [List.length_append]; omega, HI4, hb13.trans hb4, by have := hb4.size; omega⟩
              case measure => simp [lst]; omega
            by_cases h114 : c2 = 114
            · subst h114
              go_wp2_with fail
              refine (HW.out acc 13 (by decide) (by decide) _ HB3.out (by omega) (by omega)).mono ?_
              rintro e w4 ⟨⟨v, rfl⟩, hI4, hb4⟩
              have HI4 := Lib.hid hI4
              clear hI4
              go_wp2_with fail
              go_round
              case rel => exact ⟨i + (k + k2), acc ++ Lib.encodeRune 13, by omega, by go_num, Inv.step HI.out (by rw [HTok.out]; rfl), by have := enc_bd 13; rw [List.length_append]; omega, HI4, hb13.trans hb4, by have := hb4.size; omega⟩
              case measure => simp [lst]; omega
            by_cases h116 : c2 = 116
            · subst h116
              go_wp2_with fail
              refine (HW.out acc 9 (by decide) (by decide) _ HB3.out (by omega) (by omega)).mono ?_
              rintro e w4 ⟨⟨v, rfl⟩, hI4, hb4⟩
              have HI4 := Lib.hid hI4
              clear hI4
              go_wp2_with fail
              go_round
              case rel => exact ⟨i + (k + k2), acc ++ Lib.encodeRune 9, by omega, by go_num, Inv.step HI.out (by rw [HTok.out]; rfl), by have := enc_bd 9; rw [List.length_append]; omega, HI4, hb13.trans hb4, by have := hb4.size; omega⟩
              case measure => simp [lst]; omega
            by_cases h92 : c2 = 92
            · subst h92
              go_wp2_with fail
              refine (HW.out acc 92 (by decide) (by decide) _ HB3.out (by omega) (by omega)).mono ?_
              rintro e w4 ⟨⟨v, rfl⟩, hI4, hb4⟩
              have HI4 := Lib.hid hI4
              clear hI4
              go_wp2_with fail
              go_round
              case rel => exact ⟨i + (k + k2), acc ++ Lib.encodeRune 92, by omega, by go_num, Inv.step HI.out (by rw [HTok.out]; rfl), by have := enc_bd 92; rw [List.length_append]; omega, HI4, hb13.trans hb4, by have := hb4.size; omega⟩
              case measure => simp [lst]; omega
            by_cases h48 : c2 = 48
            · subst h48
              go_wp2_with fail
              refine (HW.out acc 0 (by decide) (by decide) _ HB3.out (by omega) (by omega)).mono ?_
              rintro e w4 ⟨⟨v, rfl⟩, hI4, hb4⟩
              have HI4 := Lib.hid hI4
              clear hI4
              go_wp2_with fail
              go_round
              case rel => exact ⟨i + (k + k2), acc ++ Lib.encodeRune 0, by omega, by go_num, Inv.step HI.out (by rw [HTok.out]; rfl), by have := enc_bd 0; rw [List.length_append]; omega, HI4, hb13.trans hb4, by have := hb4.size; omega⟩
              case measure => simp [lst]; omega
            by_cases h39 : c2 = 39
            · subst h39
              go_wp2_with fail
              refine (HW.out acc 39 (by decide) (by decide) _ HB3.out (by omega) (by omega)).mono ?_
              rintro e w4 ⟨⟨v, rfl⟩, hI4, hb4⟩
              have HI4 := Lib.hid hI4
              clear hI4
              go_wp2_with fail
              go_round
              case rel => exact ⟨i + (k + k2), acc ++ Lib.encodeRune 39, by omega, by go_num, Inv.step HI.out (by rw [HTok.out]; rfl), by have := enc_bd 39; rw [List.length_append]; omega, HI4, hb13.trans hb4, by have := hb4.size; omega⟩
              case measure => simp [lst]; omega
            by_cases h34 : c2 = 34
            · subst h34
              go_wp2_with fail
              refine (HW.out acc 34 (by decide) (by decide) _ HB3.out (by omega) (by omega)).mono ?_
              rintro e w4 ⟨⟨v, rfl⟩, hI4, hb4⟩
              have HI4 := Lib.hid hI4
              clear hI4
              go_wp2_with fail
              go_round
              case rel => exact ⟨i + (k + k2), acc ++ Lib.encodeRune 34, by omega, by go_num, Inv.step HI.out (by rw [HTok.out]; rfl), by have := enc_bd 34; rw [List.length_append]; omega, HI4, hb13.trans hb4, by have := hb4.size; omega⟩
              case measure => simp [lst]; omega
            have hesc : escC c2 = none := by simp [escC, h110, h114, h116, h92, h48, h39, h34]
            have g110 : ¬ (c2 : Int) = 110 := by omega
            have g114 : ¬ (c2 : Int) = 114 := by omega
            have g116 : ¬ (c2 : Int) = 116 := by omega
            have g92 : ¬ (c2 : Int) = 92 := by omega
            have g48 : ¬ (c2 : Int) = 48 := by omega
            have g39 : ¬ (c2 : Int) = 39 := by omega
            have g34 : ¬ (c2 : Int) = 34 := by omega
            by_cases h120 : c2 = 120
            · subst h120
              have HTok2 : Hid (tokK (s.data.toList.drop i) = encO (k + k2) (phK (s.data.toList.drop (i + k + k2)))) := by
                show _ = _
                rw [HTok.out, escK, hesc, Nat.add_assoc]
                rfl
              clear HTok hesc
              go_wp2_with fail
              refine (HP.out (i + k + k2) hk4 _ (HT.out.on hb13) (HB.out.on hb13)).mono ?_
              rintro e w4 ⟨hgot, hb4⟩
              rcases hx : phK (s.data.toList.drop (i + k + k2)) with _ | ⟨v, k3⟩
              · obtain ⟨v, j, t, u, rfl⟩ := Got_none hgot hx
                have HX := Lib.hid hx
                clear hx hgot
                go_wp2_with fail
                exact bodyPost_ret (v := .tuple #[.string ⟨#[]⟩, .slice none 0 0, .iface t u]) (by simp [results, Tryd.results8, go_sem]) rfl ⟨.inr ⟨Inv.none hlt HI.out (by rw [HTok2.out, HX.out]; rfl), t, u, rfl⟩, hb13.trans (hb4.mono (by omega))⟩
              · obtain rfl := Got_some hgot hx
                have hv0 := phK_k hx
                rw [List.length_drop, show s.data.toList.length = s.size from rfl] at hv0
                have HX := Lib.hid hx
                clear hx hgot
                have HB4 : Hid (Lib.IsBuilderF 40 5 w.heap.size w.heap.size (Lib.byteCells acc) w4) := blt_on HB3.out hb4
                have hb14 : Below w.heap.size w w4 := hb13.trans (hb4.mono (by omega))
                have hsz4 : w.heap.size < w4.heap.size := by have := hb4.size; omega
                go_wp2_with fail
                refine (HW.out acc v (by omega) (by omega) _ HB4.out (by omega) (by omega)).mono ?_
                rintro e w5 ⟨⟨v5, rfl⟩, hI5, hb5⟩
                have HI5 := Lib.hid hI5
                clear hI5
                go_wp2_with fail
                go_round
                case rel => exact ⟨i + (k + k2 + k3), acc ++ Lib.encodeRune v, by omega, by go_num, Inv.step HI.out (by rw [HTok2.out, HX.out]; rfl), by have := enc_bd v; rw [List.length_append]; omega, HI5, hb14.trans hb5, by have := hb5.size; omega⟩
                case measure => simp [lst]; omega
            by_cases h117 : c2 = 117
            · subst h117
              have HTok2 : Hid (tokK (s.data.toList.drop i) = encO (k + k2) (puK (s.data.toList.drop (i + k + k2)))) := by
                show _ = _
                rw [HTok.out, escK, hesc, Nat.add_assoc]
                rfl
              clear HTok hesc
              go_wp2_with fail
              refine (HU.out (i + k + k2) hk4 _ (HT.out.on hb13) (HB.out.on hb13)).mono ?_
              rintro e w4 ⟨hgot, hb4⟩
              rcases hx : puK (s.data.toList.drop (i + k + k2)) with _ | ⟨v, k3⟩
              · obtain ⟨v, j, t, u, rfl⟩ := Got_none hgot hx
                have HX := Lib.hid hx
                clear hx hgot
                go_wp2_with fail
                exact bodyPost_ret (v := .tuple #[.string ⟨#[]⟩, .slice none 0 0, .iface t u]) (by simp [results, Tryd.results8, go_sem]) rfl ⟨.inr ⟨Inv.none hlt HI.out (by rw [HTok2.out, HX.out]; rfl), t, u, rfl⟩, hb13.trans (hb4.mono (by omega))⟩
              · obtain rfl := Got_some hgot hx
                have hv0 := puK_k hx
                have hv1 := puK_v hx
                rw [List.length_drop, show s.data.toList.length = s.size from rfl] at hv0
                have HX := Lib.hid hx
                clear hx hgot
                have HB4 : Hid (Lib.IsBuilderF 40 5 w.heap.size w.heap.size (Lib.byteCells acc) w4) := blt_on HB3.out hb4
                have hb14 : Below w.heap.size w w4 := hb13.trans (hb4.mono (by omega))
                have hsz4 : w.heap.size < w4.heap.size := by have := hb4.size; omega
                go_wp2_with fail
                refine (HW.out acc v (by omega) (by omega) _ HB4.out (by omega) (by omega)).mono ?_
                rintro e w5 ⟨⟨v5, rfl⟩, hI5, hb5⟩
                have HI5 := Lib.hid hI5
                clear hI5
                go_wp2_with fail
                go_round
                case rel => exact ⟨i + (k + k2 + k3), acc ++ Lib.encodeRune v, by omega, by go_num, Inv.step HI.out (by rw [HTok2.out, HX.out]; rfl), by have := enc_bd v; rw [List.length_append]; omega, HI5, hb14.trans hb5, by have := hb5.size; omega⟩
                case measure => simp [lst]; omega
            have g120 : ¬ (c2 : Int) = 120 := by omega
            have g117 : ¬ (c2 : Int) = 117 := by omega
            have HTok2 : Hid (tokK (s.data.toList.drop i) = none) := by
              show _ = _
              rw [HTok.out, escK, hesc]
              simp [h120, h117]
            clear HTok hesc
            by_cases h42 : c2 = 42
            · subst h42
              go_wp2_with fail
              refine (HE.out _ _).mono ?_
              rintro e w4 ⟨⟨t, u, rfl⟩, hb4⟩
              go_wp2_with fail
              exact bodyPost_ret (v := .tuple #[.string ⟨#[]⟩, .slice none 0 0, .iface t u]) (by simp [results, Tryd.results8, go_sem]) rfl ⟨.inr ⟨Inv.none hlt HI.out (HTok2.out), t, u, rfl⟩, hb13.trans (hb4.mono (by omega))⟩
            · have g42 : ¬ (c2 : Int) = 42 := by omega
              go_wp2_with fail
              refine (HE.out _ _).mono ?_
              rintro e w4 ⟨⟨t, u, rfl⟩, hb4⟩
              go_wp2_with fail
              exact bodyPost_ret (v := .tuple #[.string ⟨#[]⟩, .slice none 0 0, .iface t u]) (by simp [results, Tryd.results8, go_sem]) rfl ⟨.inr ⟨Inv.none hlt HI.out (HTok2.out), t, u, rfl⟩, hb13.trans (hb4.mono (by omega))⟩
          · have HTok : Hid (tokK (s.data.toList.drop i) = none) := by
              show _ = _
              simp only [tokK, HN.out, if_pos, List.drop_drop, hn2]
            clear hn2
            go_wp2_with fail
            exact bodyPost_ret (v := .tuple #[.string ⟨#[]⟩, .slice none 0 0, .iface t u]) (by simp [results, Tryd.results8, go_sem]) rfl ⟨.inr ⟨Inv.none hlt HI.out (HTok.out), t, u, rfl⟩, hb12.trans (hb3.mono (by omega))⟩
        · have g92 : ¬ (c : Int) = 92 := by omega
          have HTok : Hid (tokK (s.data.toList.drop i) = some (Lib.encodeRune (c : Int), k)) := by
            show _ = _
            simp only [tokK, HN.out, h92, if_false]
          go_wp2_with fail
          refine (HW.out acc (c : Int) (by omega) (by omega) _ HB2.out (by omega) (by omega)).mono ?_
          rintro e w3 ⟨⟨v, rfl⟩, hI3, hb3⟩
          have HI3 := Lib.hid hI3
          clear hI3
          go_wp2_with fail
          go_round
          case rel => exact ⟨i + k, acc ++ Lib.encodeRune (c : Int), by omega, by go_num, Inv.step HI.out HTok.out, by have := enc_bd (c : Int); rw [List.length_append]; omega, HI3, hb12.trans hb3, by have := hb3.size; omega⟩
          case measure => simp [lst]; omega
      · have HTok : Hid (tokK (s.data.toList.drop i) = none) := by
          show _ = _
          simp only [tokK, hn]
        clear hn
        go_wp2_with fail
        exact bodyPost_ret (v := .tuple #[.string ⟨#[]⟩, .slice none 0 0, .iface t u]) (by simp [results, Tryd.results8, go_sem]) rfl ⟨.inr ⟨Inv.none hlt HI.out (HTok.out), t, u, rfl⟩, hb1.trans (hb2.mono (by omega))⟩
    · obtain rfl : i = s.size := by omega
      have hfin := Inv.fin HI.out
      have HFin := Lib.hid hfin
      clear hfin HI
      have hal : acc.length ≤ 4 * s.data.toList.length := hacc
      have HAl := Lib.hid hal
      have HS0 : Sb w acc wr.drew := Sb.drew ⟨HBld.out, hb1, hsz⟩
      clear hal HBld hb1 hsz hacc
      by_cases hc : cap - s.size = 0
      · go_wp2_with fail
        go_region_held3 (fun w' => Sb w acc w') (first | exact HS0 | exact hS9) (first | (go_at_call 11; refine (st_11 (by assumption)).mono ?_; rintro e w9 ⟨rfl, hS9⟩))
        rename_i hh
        have HH := Lib.hid hh
        clear hh
        go_wp2_with fail
        exact bodyPost_ret (v := .tuple #[.string ⟨acc.toArray⟩, .slice (some ⟨b, 0, none⟩) 0 0, .nilIface]) (by simp [results, Tryd.results8, go_sem]) rfl ⟨.inl ⟨acc, _, _, HFin.out, HAl.out, rfl⟩, HH.out.bel⟩
      · go_wp2_with fail
        go_region_held3 (fun w' => Sb w acc w') (first | exact HS0 | exact hS9) (first | (go_at_call 11; refine (st_11 (by assumption)).mono ?_; rintro e w9 ⟨rfl, hS9⟩))
        rename_i hh
        have HH := Lib.hid hh
        clear hh
        go_wp2_with fail
        exact bodyPost_ret (v := .tuple #[.string ⟨acc.toArray⟩, .slice (some ⟨b, s.size, none⟩) 0 (cap - s.size), .nilIface]) (by simp [results, Tryd.results8, go_sem]) rfl ⟨.inl ⟨acc, _, _, HFin.out, HAl.out, rfl⟩, HH.out.bel⟩
end Go.Proofs.YtbgmlpckamnnaaaDoor
