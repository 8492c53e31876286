/-
  What Pattern.Match returns for the components of a pattern. Lemmas for this seat's law.
-/
import Derived.Test.YtjbehjihpjdimaaMc
import Derived.Deep.LoopGhost
namespace Go.Proofs.Ytjbehjihpjdimaa
open Go.ChangeShapes Go.WideShapes Go.ChangeAt Go.RowKit
set_option linter.unusedVariables false

/-- The search behind a wildcard: the first place at which the piece stands (at the text's end, if it is the last piece), and what is behind it. -/
def srchAt (l s : ByteArray) (last : Bool) (i : Nat) : Option ByteArray :=
  if mcOk l (s.extract (i + 1) s.size) && !(last && decide (0 < (mcRest l (s.extract (i + 1) s.size)).size)) then some (mcRest l (s.extract (i + 1) s.size)) else none
def srch (l s : ByteArray) (last : Bool) : Option ByteArray := (List.range s.size).findSome? (srchAt l s last)
def matF : List (Bool × ByteArray) → ByteArray → Bool
  | [], s => decide (s.size = 0)
  | (star, l) :: cs, s =>
    if star = true ∧ l.size = 0 then true
    else if mcOk l s = true ∧ ((mcRest l s).size = 0 ∨ cs ≠ []) then matF cs (mcRest l s)
    else if star = true then (match srch l s cs.isEmpty with | some t => matF cs t | none => false)
    else false

/-- The components' cells: two a component. -/
def Comps (w : World) (g : Nat) (cs : List (Bool × ByteArray)) : Prop :=
  ∀ (k : Nat) (x : Bool × ByteArray), cs[k]? = some x → w.cell? ⟨g, k * 2, none⟩ = some (.bool x.1) ∧ w.cell? ⟨g, k * 2 + 1, none⟩ = some (.string x.2)

theorem empty_iff (x : ByteArray) : x.toList.isEmpty = decide (x.size = 0) := by
  rw [ByteArray.toList_eq, ← len_eq]
  cases h : x.data.toList <;> simp
theorem mcRest_le (l x : ByteArray) : (mcRest l x).size ≤ x.size := by
  unfold mcRest; split
  · simp
  · simp
theorem findSome_at {α : Type} {f : Nat → Option α} {n j : Nat} {t : α} (hj : j < n) (hn : ∀ i, i < j → f i = none) (ht : f j = some t) : (List.range n).findSome? f = some t := by
  induction n with
  | zero => omega
  | succ n ih =>
    rw [List.range_succ, List.findSome?_append]
    rcases Nat.lt_or_ge j n with h | h
    · rw [ih h]; rfl
    · obtain rfl : j = n := by omega
      have h1 : (List.range j).findSome? f = none := by
        rw [List.findSome?_eq_none_iff]; intro i hi; exact hn i (List.mem_range.1 hi)
      rw [h1, Option.none_or]; simp [ht]
theorem srch_found {l s : ByteArray} {last : Bool} {j : Nat} {t : ByteArray} (hj : j < s.size) (hn : ∀ i, i < j → srchAt l s last i = none) (ht : srchAt l s last j = some t) : srch l s last = some t :=
  findSome_at hj hn ht
theorem srch_none {l s : ByteArray} {last : Bool} (hn : ∀ i, i < s.size → srchAt l s last i = none) : srch l s last = none := by
  unfold srch; rw [List.findSome?_eq_none_iff]; intro i hi; exact hn i (List.mem_range.1 hi)
set_option maxRecDepth 100000 in
set_option maxHeartbeats 1000000 in
theorem mt_6 (g cap : Nat) (cs : List (Bool × ByteArray)) (s : ByteArray) (hs : s.size ≤ maxLen) (w : World) (hg : g < w.heap.size) (hC : Comps w g cs) (hl : ∀ x ∈ cs, x.2.size ≤ maxLen) (hn : cs.length ≤ 1000) :
    Calls Try.prog 6 #[.agg #[.slice (some ⟨g, 0, none⟩) cs.length cap], .string s] w fun e w' => e = .returned (.bool (matF cs s)) ∧ Below w.heap.size w w' := by
  generalize hB : matF cs s = B
  have HB := Lib.hid hB
  have HC := Lib.hid hC
  clear hB hC
  go_enter Try.func6, Try.ntmps6
  go_wp2_with fail
  go_step3
  go_wp2_with fail
  go_step3
  go_wp2_with fail
  go_loopw [1, 16] (fun a i wr => ∃ (k : Nat) (x : ByteArray), k ≤ cs.length ∧ i = .int .i64 (k : Int) ∧ a = .string x ∧ x.size ≤ maxLen ∧ Hid (matF (cs.drop k) x = B) ∧ wr.cell? ⟨w.heap.size, 0, none⟩ = some (.slice (some ⟨g, 0, none⟩) cs.length cap) ∧ Below w.heap.size w wr ∧ w.heap.size < wr.heap.size) (fun _ i _ => cs.length - (intOf i).toNat)
  case atStart => exact ⟨0, s, by omega, rfl, rfl, hs, HB.out, by simp, (Below.refl _ _).alloc (Nat.le_refl _) _, by simp⟩
  case round =>
    obtain ⟨k, x, hk, rfl, rfl, hx, hm, hc0, hb, hsz⟩ := hrel
    by_cases hlt : k < cs.length
    · obtain ⟨st, l, hx0⟩ : ∃ st l, cs[k] = (st, l) := ⟨_, _, rfl⟩
      have hll : l.size ≤ maxLen := by have := hl cs[k] (List.getElem_mem hlt); rw [hx0] at this; exact this
      have hd : cs.drop k = (st, l) :: cs.drop (k + 1) := by rw [List.drop_eq_getElem_cons hlt, hx0]
      have c1 : wr.cell? ⟨g, k * 2, none⟩ = some (.bool st) := by
        have := (HC.out k cs[k] (List.getElem?_eq_getElem hlt)).1
        rw [hx0] at this
        exact (hb.cell (p := ⟨g, k * 2, none⟩) hg).trans this
      have c2 : wr.cell? ⟨g, k * 2 + 1, none⟩ = some (.string l) := by
        have := (HC.out k cs[k] (List.getElem?_eq_getElem hlt)).2
        rw [hx0] at this
        exact (hb.cell (p := ⟨g, k * 2 + 1, none⟩) hg).trans this
      have HM : Hid (matF ((st, l) :: cs.drop (k + 1)) x = B) := by have := hm.out; rw [hd] at this; exact this
      have HD : Hid (cs.drop (k + 1) = [] ↔ k + 1 = cs.length) := by rw [Hid, List.drop_eq_nil_iff]; omega
      clear hm hx0 hd hl
      by_cases h1 : st = true ∧ l.size = 0
      · obtain ⟨rfl, hz⟩ := h1
        have z1 : l.toList.isEmpty = true := by rw [empty_iff]; simpa using hz
        have E : Hid (B = true) := by have := HM.out; rw [matF, if_pos ⟨rfl, hz⟩] at this; exact this.symm
        clear hz
        go_wp2_with fail
        rw [Exit.noGoto_ret]
        go_ret
        exact ⟨by rw [E.out]; rfl, hb.alloc (by omega) _⟩
      · have z1 : st = false ∨ (st = true ∧ l.toList.isEmpty = false) := by
          cases st
          · exact .inl rfl
          · refine .inr ⟨rfl, ?_⟩
            rw [empty_iff, decide_eq_false_iff_not]
            intro h; exact h1 ⟨rfl, h⟩
        have HN := Lib.hid h1
        clear h1
        have ht := mcRest_le l x
        have HM2 : Hid (mcOk l x = true ∧ ((mcRest l x).size = 0 ∨ cs.drop (k + 1) ≠ []) → matF (cs.drop (k + 1)) (mcRest l x) = B) := fun h => by
          have := HM.out; rw [matF, if_neg HN.out, if_pos h] at this; exact this
        have HM3 : Hid (¬ (mcOk l x = true ∧ ((mcRest l x).size = 0 ∨ cs.drop (k + 1) ≠ [])) → (if st = true then (match srch l x (cs.drop (k + 1)).isEmpty with | some t => matF (cs.drop (k + 1)) t | none => false) else false) = B) := fun h => by
          have := HM.out; rw [matF, if_neg HN.out, if_neg h] at this; exact this
        by_cases h2 : mcOk l x = true ∧ ((mcRest l x).size = 0 ∨ cs.drop (k + 1) ≠ [])
        · have HF : Hid (matF (cs.drop (k + 1)) (mcRest l x) = B) := HM2.out h2
          have k1 : mcOk l x = true := h2.1
          have k2 : ((↑(mcRest l x).size : Int) == 0) = true ∨ (((↑(mcRest l x).size : Int) == 0) = false ∧ ((k : Int) == (cs.length : Int) - 1) = false) := by
            by_cases hz : (mcRest l x).size = 0
            · left; rw [beq_iff_eq]; omega
            · right
              have hk1 : ¬ (k + 1 = cs.length) := fun h => (h2.2.resolve_left hz) (HD.out.2 h)
              exact ⟨by rw [beq_eq_false_iff_ne]; omega, by rw [beq_eq_false_iff_ne]; omega⟩
          clear h2
          rcases z1 with rfl | ⟨rfl, z1⟩ <;> rcases k2 with k2 | ⟨k2, k3⟩
          all_goals
            go_wp2_with fail
            refine (mc_8 _ _ hll hx _).mono ?_
            rintro e1 w1 ⟨rfl, hq⟩
            obtain ⟨m, rfl⟩ := hq
            rw [k1]
            go_wp2_with fail
            go_round
            case rel => exact ⟨k + 1, _, by omega, by go_num, rfl, by omega, HF, (World.cell?_alloc_lt wr _ ⟨w.heap.size, 0, none⟩ hsz).trans hc0, below_drewN (hb.alloc (by omega) _) _, by simp; omega⟩
            case measure => simp [intOf]; omega
        · have HF := HM3.out h2
          have k1 : mcOk l x = false ∨ (mcOk l x = true ∧ ((↑(mcRest l x).size : Int) == 0) = false ∧ ((k : Int) == (cs.length : Int) - 1) = true) := by
            rcases ho : mcOk l x with _ | _
            · exact .inl rfl
            · right
              have hz : ¬ (mcRest l x).size = 0 := fun h => h2 ⟨ho, .inl h⟩
              have hk1 : k + 1 = cs.length := by
                rcases Nat.lt_or_ge (k + 1) cs.length with h | h
                · exact absurd ⟨ho, .inr (fun e => by have := HD.out.1 e; omega)⟩ h2
                · omega
              exact ⟨rfl, by rw [beq_eq_false_iff_ne]; omega, by rw [beq_iff_eq]; omega⟩
          clear h2
          rcases z1 with rfl | ⟨rfl, z1⟩
          · have E : Hid (B = false) := HF.symm
            clear HF
            rcases k1 with k1 | ⟨k1, k2, k3⟩
            all_goals
              go_wp2_with fail
              refine (mc_8 _ _ hll hx _).mono ?_
              rintro e1 w1 ⟨rfl, hq⟩
              obtain ⟨m, rfl⟩ := hq
              rw [k1]
              go_wp2_with fail
              rw [Exit.noGoto_ret]
              go_ret
              exact ⟨by rw [E.out]; rfl, below_drewN (hb.alloc (by omega) _) _⟩
          · have HS : Hid ((match srch l x (cs.drop (k + 1)).isEmpty with | some t => matF (cs.drop (k + 1)) t | none => false) = B) := by rw [if_pos rfl] at HF; exact HF
            clear HF
            obtain ⟨lb, hlb⟩ : ∃ lb, (cs.drop (k + 1)).isEmpty = lb := ⟨_, rfl⟩
            have k2 : ((k : Int) == (cs.length : Int) - 1) = lb := by
              rw [← hlb, Bool.eq_iff_iff, beq_iff_eq, List.isEmpty_iff, HD.out]; omega
            have HL := Lib.hid hlb
            clear hlb
            have k1' : (mcOk l x = false ∧ lb = true) ∨ (mcOk l x = false ∧ lb = false) ∨ (mcOk l x = true ∧ ((↑(mcRest l x).size : Int) == 0) = false ∧ lb = true) := by
              rcases k1 with k1 | ⟨k1, k4, k3⟩
              · cases lb
                · exact .inr (.inl ⟨k1, rfl⟩)
                · exact .inl ⟨k1, rfl⟩
              · exact .inr (.inr ⟨k1, k4, k2.symm.trans k3⟩)
            clear k1
            rcases k1' with ⟨k1, rfl⟩ | ⟨k1, rfl⟩ | ⟨k1, k4, rfl⟩
            all_goals
              go_wp2_with fail
              refine (mc_8 _ _ hll hx _).mono ?_
              rintro e1 w1 ⟨rfl, hq⟩
              have d1 : w1.cell? ⟨wr.heap.size, 1, none⟩ = some (.string l) := by obtain ⟨m, rfl⟩ := hq; simp
              have d2 : w1.cell? ⟨wr.heap.size, 0, none⟩ = some (.bool true) := by obtain ⟨m, rfl⟩ := hq; simp
              have d3 : w1.cell? ⟨w.heap.size, 0, none⟩ = some (.slice (some ⟨g, 0, none⟩) cs.length cap) := by
                obtain ⟨m, rfl⟩ := hq; exact (World.cell?_alloc_lt wr _ ⟨w.heap.size, 0, none⟩ hsz).trans hc0
              have d4 : Hid (Below w.heap.size w w1) := by obtain ⟨m, rfl⟩ := hq; exact below_drewN (hb.alloc (by omega) _) _
              have d5 : Hid (w1.heap.size = wr.heap.size + 1) := by obtain ⟨m, rfl⟩ := hq; simp [Hid]
              clear hq hc0 hb
              rw [k1]
              go_wp2_with fail
              obtain ⟨wq, rfl⟩ : ∃ wq : World, wq = wr := ⟨_, rfl⟩
              go_loopw [1, 10] (fun a i wi => ∃ j : Nat, j ≤ x.size ∧ a = .string x ∧ i = .int .i64 (j : Int) ∧ Hid (∀ i, i < j → srchAt l x ((cs.drop (k + 1)).isEmpty) i = none) ∧ ∃ m, wi = w1.drewN m) (fun _ i _ => x.size - (intOf i).toNat)
              case atStart => exact ⟨0, by omega, rfl, rfl, fun i hi => absurd hi (by omega), 0, rfl⟩
              case round =>
                obtain ⟨j, hj, rfl, rfl, hnone, hqq⟩ := hrel
                have b1 : wr.cell? ⟨wq.heap.size, 1, none⟩ = some (.string l) := by obtain ⟨m, rfl⟩ := hqq; exact d1
                have b3 : wr.cell? ⟨w.heap.size, 0, none⟩ = some (.slice (some ⟨g, 0, none⟩) cs.length cap) := by obtain ⟨m, rfl⟩ := hqq; exact d3
                have b4 : Hid (Below w.heap.size w wr) := by obtain ⟨m, rfl⟩ := hqq; exact below_drewN d4.out m
                have b5 : Hid (wr.heap.size = wq.heap.size + 1) := by obtain ⟨m, rfl⟩ := hqq; exact d5
                have HQ := Lib.hid hqq
                have hx' : x.size ≤ 9223372036854775807 := hx
                clear hqq d1 d2 d3
                by_cases hjl : j < x.size
                · obtain ⟨y, hy⟩ : ∃ y, x.extract (j + 1) x.size = y := ⟨_, rfl⟩
                  have hys : y.size ≤ maxLen := by rw [← hy]; simp; omega
                  have hyx : y.size ≤ x.size := by rw [← hy]; simp
                  have hte := mcRest_le l y
                  have FJ : Hid (srchAt l x ((cs.drop (k + 1)).isEmpty) j = if mcOk l y && !((cs.drop (k + 1)).isEmpty && decide (0 < (mcRest l y).size)) then some (mcRest l y) else none) := by
                    rw [Hid, srchAt, hy]
                  have HY := Lib.hid hy
                  clear hy
                  rcases Bool.eq_false_or_eq_true (mcOk l y) with ho | ho
                  · rcases Nat.eq_zero_or_pos (mcRest l y).size with hz | hz
                    · have z5 : ¬ 0 < (mcRest l y).size := by omega
                      have HZ := Lib.hid hz
                      clear hz
                      have HFF : Hid (matF (cs.drop (k + 1)) (mcRest l y) = B) := by
                        have h1 : srch l x ((cs.drop (k + 1)).isEmpty) = some (mcRest l y) := srch_found hjl hnone.out (by rw [FJ.out, ho, HZ.out]; simp)
                        have h2 := HS.out
                        rw [h1] at h2; exact h2
                      go_wp2_with fail
                      have q4 : j + 1 ≤ x.size := by omega
                      have q2 : (0 : Int) ≤ (j : Int) + 1 := by omega
                      have q3 : ((j : Int) + 1).toNat = j + 1 := by omega
                      have q1 : IntKind.i64.wrap ((j : Int) + 1) = (j : Int) + 1 := IntWalk.i64_in _ (by have : x.size ≤ 9223372036854775807 := hx; omega)
                      have hy' := HY.out
                      go_quiet ((go_at_call 8; exact Calls.quiet_of (mc_8 _ _ hll hys _)))
                      clear q1 q2 q3 hy'
                      go_wp2_with fail
                      go_round
                      case rel => exact ⟨k + 1, _, by omega, by go_num, rfl, by omega, HFF, b3, below_drewN b4.out _, by have := b5.out; simp; omega⟩
                      case measure => simp [intOf]; omega
                    · first
                        | (have hlf : (cs.drop (k + 1)).isEmpty = false := HL.out
                           have HLF := Lib.hid hlf
                           clear hlf
                           have HFF : Hid (matF (cs.drop (k + 1)) (mcRest l y) = B) := by
                             have h1 : srch l x ((cs.drop (k + 1)).isEmpty) = some (mcRest l y) := srch_found hjl hnone.out (by rw [FJ.out, ho, HLF.out]; rfl)
                             have h2 := HS.out
                             rw [h1] at h2; exact h2
                           go_wp2_with fail
                           have q4 : j + 1 ≤ x.size := by omega
                           have q2 : (0 : Int) ≤ (j : Int) + 1 := by omega
                           have q3 : ((j : Int) + 1).toNat = j + 1 := by omega
                           have q1 : IntKind.i64.wrap ((j : Int) + 1) = (j : Int) + 1 := IntWalk.i64_in _ (by have : x.size ≤ 9223372036854775807 := hx; omega)
                           have hy' := HY.out
                           go_quiet ((go_at_call 8; exact Calls.quiet_of (mc_8 _ _ hll hys _)))
                           clear q1 q2 q3 hy'
                           go_wp2_with fail
                           go_round
                           case rel => exact ⟨k + 1, _, by omega, by go_num, rfl, by omega, HFF, b3, below_drewN b4.out _, by have := b5.out; simp; omega⟩
                           case measure => simp [intOf]; omega)
                        | (have hlf : (cs.drop (k + 1)).isEmpty = true := HL.out
                           have HLF := Lib.hid hlf
                           clear hlf
                           have HNN : Hid (∀ i, i < j + 1 → srchAt l x ((cs.drop (k + 1)).isEmpty) i = none) := fun i hi => by
                             rcases Nat.lt_or_ge i j with h | h
                             · exact hnone.out i h
                             · obtain rfl : i = j := by omega
                               rw [FJ.out, ho, HLF.out]; simp [hz]
                           go_wp2_with fail
                           have q4 : j + 1 ≤ x.size := by omega
                           have q2 : (0 : Int) ≤ (j : Int) + 1 := by omega
                           have q3 : ((j : Int) + 1).toNat = j + 1 := by omega
                           have q1 : IntKind.i64.wrap ((j : Int) + 1) = (j : Int) + 1 := IntWalk.i64_in _ (by have : x.size ≤ 9223372036854775807 := hx; omega)
                           have hy' := HY.out
                           go_quiet ((go_at_call 8; exact Calls.quiet_of (mc_8 _ _ hll hys _)))
                           clear q1 q2 q3 hy'
                           go_wp2_with fail
                           go_round
                           case rel => exact ⟨j + 1, by omega, rfl, by go_num, HNN, by obtain ⟨m, hm⟩ := HQ.out; exact ⟨_, by rw [hm, World.drewN_drewN]⟩⟩
                           case measure => simp [intOf]; omega)
                  · skip
                    have HNN : Hid (∀ i, i < j + 1 → srchAt l x ((cs.drop (k + 1)).isEmpty) i = none) := fun i hi => by
                      rcases Nat.lt_or_ge i j with h | h
                      · exact hnone.out i h
                      · obtain rfl : i = j := by omega
                        rw [FJ.out, ho]; rfl
                    go_wp2_with fail
                    have q4 : j + 1 ≤ x.size := by omega
                    have q2 : (0 : Int) ≤ (j : Int) + 1 := by omega
                    have q3 : ((j : Int) + 1).toNat = j + 1 := by omega
                    have q1 : IntKind.i64.wrap ((j : Int) + 1) = (j : Int) + 1 := IntWalk.i64_in _ (by have : x.size ≤ 9223372036854775807 := hx; omega)
                    have hy' := HY.out
                    go_quiet ((go_at_call 8; exact Calls.quiet_of (mc_8 _ _ hll hys _)))
                    clear q1 q2 q3 hy'
                    go_wp2_with fail
                    go_round
                    case rel => exact ⟨j + 1, by omega, rfl, by go_num, HNN, by obtain ⟨m, hm⟩ := HQ.out; exact ⟨_, by rw [hm, World.drewN_drewN]⟩⟩
                    case measure => simp [intOf]; omega
                · obtain rfl : j = x.size := by omega
                  have E : Hid (B = false) := by
                    have h2 := HS.out
                    rw [srch_none hnone.out] at h2; exact h2.symm
                  go_wp2_with fail
                  rw [Exit.noGoto_ret]
                  go_ret
                  exact ⟨by rw [E.out]; rfl, b4.out⟩
    · obtain rfl : k = cs.length := by omega
      have E : Hid (B = decide (x.size = 0)) := by have := hm.out; rw [List.drop_length, matF] at this; exact this.symm
      have q : ((↑x.size : Int) == 0) = decide (x.size = 0) := by rw [Bool.eq_iff_iff]; simp
      have Q := Lib.hid q
      clear q
      go_wp2_with fail
      rw [Exit.noGoto_ret]
      go_ret
      exact ⟨by rw [E.out, ← Q.out]; rfl, hb⟩
end Go.Proofs.Ytjbehjihpjdimaa
