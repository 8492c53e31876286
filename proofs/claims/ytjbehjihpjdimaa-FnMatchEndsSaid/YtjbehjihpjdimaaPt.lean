/-
  What impl.pattern and NewPattern make of two pieces. Lemmas for this seat's law.
-/
import Derived.Test.YtjbehjihpjdimaaNp
import Derived.OwnWalk
namespace Go.Proofs.Ytjbehjihpjdimaa
open Go.ChangeShapes Go.WideShapes Go.ChangeAt Go.RowKit
set_option linter.unusedVariables false

theorem info20 : (Try.prog.info? 20).map (fun i => (i.zero, i.size, i.bytes)) = some (some .nilIface, 1, 16) := by kernel_rfl
def stepE (i : Nat) (s : ByteArray) : List (Option ByteArray) := (if i = 0 then [] else [none]) ++ (if s.size = 0 then [] else [some s])
def outE (l : List ByteArray) : Nat → List (Option ByteArray)
  | 0 => []
  | k + 1 => outE l k ++ stepE k (l.getD k ByteArray.empty)
def wildV : Value := .iface 33 (.agg #[])
def strV (s : ByteArray) : Value := .iface 30 (.string s)
def stepV (i : Nat) (s : ByteArray) : List Value := (stepE i s).map elV
def outs (l : List ByteArray) (k : Nat) : List Value := (outE l k).map elV
theorem outE_le (l : List ByteArray) (k : Nat) : (outE l k).length ≤ 2 * k := by
  induction k with
  | zero => simp [outE]
  | succ k ih =>
    simp only [outE, List.length_append, stepE]
    split <;> split <;> simp <;> omega
theorem outs_le (l : List ByteArray) (k : Nat) : (outs l k).length ≤ 2 * k := by unfold outs; rw [List.length_map]; exact outE_le l k
theorem mem_outE (l : List ByteArray) (k : Nat) (hk : k ≤ l.length) (s : ByteArray) (h : some s ∈ outE l k) : s ∈ l := by
  induction k with
  | zero => cases h
  | succ k ih =>
    rw [outE, List.mem_append] at h
    rcases h with h | h
    · exact ih (by omega) h
    · unfold stepE at h
      rw [List.getD_eq_getElem?_getD, List.getElem?_eq_getElem (by omega)] at h
      rw [List.mem_append] at h
      rcases h with h | h
      · split at h <;> simp at h
      · split at h
        · simp at h
        · simp at h; subst h; exact List.getElem_mem _
theorem mul16 {n : Nat} (h : n ≤ 1000) : n * 16 ≤ 140737488355328 := by omega

set_option maxHeartbeats 4000000 in
theorem pt_5 (g cap : Nat) (l : List ByteArray) (hl : ∀ x ∈ l, x.size ≤ 1000) (hn : l.length ≤ 40) (w : World) (hg : g < w.heap.size) (hc : ∀ k x, l[k]? = some x → w.cell? ⟨g, k, none⟩ = some (.string x)) (hE : outE l l.length ≠ []) (hR : (outE l l.length).foldl np [] ≠ []) :
    Calls Try.prog 5 #[.slice (some ⟨g, 0, none⟩) l.length cap] w (NpPost ((outE l l.length).foldl np []) w) := by
  obtain ⟨i0, hi0, hz0, hz1, hz2⟩ := info_parts info20
  have hc' : ∀ o k x, l[k]? = some x → (w.alloc o).cell? ⟨g, k, none⟩ = some (.string x) := fun o k x hx => (World.cell?_alloc_lt w o ⟨g, k, none⟩ hg).trans (hc k x hx)
  have HC := Lib.hid hc'
  have HE := Lib.hid hE
  have HR := Lib.hid hR
  have HL := Lib.hid hl
  clear hc hc' hE hR
  go_enter Try.func5, Try.ntmps5
  go_wp2_with fail
  go_loopw [3, 8] (fun v i wr => ∃ k : Nat, k ≤ l.length ∧ i = .int .i64 (k : Int) ∧ wr.ownsRow (w.heap.size + 1) 20 1 v (outs l k).length (outs l k) ∧ Below (w.heap.size + 1) (w.alloc (.cells #[.slice none 0 0] 27)) wr ∧ w.heap.size < wr.heap.size) (fun _ i _ => l.length - (intOf i).toNat)
  case atStart => exact ⟨0, by omega, rfl, ⟨rfl, .inl ⟨rfl, rfl⟩⟩, Below.refl _ _, by simp⟩
  case round =>
    obtain ⟨k, hk, rfl, hown, hb, hsz⟩ := hrel
    by_cases hlt : k < l.length
    · obtain ⟨x, hx⟩ : ∃ x, l[k] = x := ⟨_, rfl⟩
      have hxl : x.size ≤ 1000 := by rw [← hx]; exact HL.out _ (List.getElem_mem hlt)
      have c1 : wr.cell? ⟨g, k, none⟩ = some (.string x) := (hb.cell (p := ⟨g, k, none⟩) (by show g < _; omega)).trans (HC.out _ k x (by rw [List.getElem?_eq_getElem hlt, hx]))
      have hO : Hid (outs l (k + 1) = outs l k ++ stepV k x) := by
        rw [Hid, outs, outE, List.getD_eq_getElem?_getD, List.getElem?_eq_getElem hlt, hx, List.map_append]; rfl
      have hlen := outs_le l k
      clear hx
      rcases Nat.eq_zero_or_pos k with h0 | h0
      · rcases Nat.eq_zero_or_pos x.size with hz | hz
        · have z1 : x.toList.isEmpty = true := by rw [empty_iff]; exact decide_eq_true hz
          have hO' : Hid (outs l (k + 1) = outs l k) := by rw [Hid, hO.out]; simp [stepV, stepE, h0, hz]
          clear hz hO
          have h0' : ¬ 0 < k := by omega
          clear h0
          go_wp2_with fail
          go_round
          case rel => exact ⟨k + 1, by omega, by go_num, by rw [hO'.out]; exact hown, hb, hsz⟩
          case measure => simp [intOf]; omega
        · have z1 : x.toList.isEmpty = false := by rw [empty_iff]; exact decide_eq_false (by omega)
          have hO' : Hid (outs l (k + 1) = outs l k ++ [strV x]) := by rw [Hid, hO.out, stepV, stepE, if_pos h0, if_neg (by omega)]; rfl
          clear hO
          have h0' : ¬ 0 < k := by omega
          clear h0
          generalize outs l k = xs at *
          have p1 : ∀ u ∈ [strV x], u.oneCell' = true := by simp [strV, Value.oneCell']
          have p2 : ∀ u ∈ [wildV], u.oneCell' = true := by simp [wildV, Value.oneCell']
          have q0 : xs.length ≤ 200 := by omega
          have p4 : (xs.length + 1) * 16 ≤ 140737488355328 := mul16 (by omega)
          have p4b : (xs.length + 1 + 1) * 16 ≤ 140737488355328 := mul16 (by omega)
          have p3 : xs.length + 1 ≤ maxLen := small_le (by omega)
          have p3b : xs.length + 1 + 1 ≤ maxLen := small_le (by omega)
          have p5 : ∀ o, w.heap.size + 1 ≤ (wr.alloc o).heap.size := fun o => by simp; omega
          go_wp2_with (at_builtin; refine wpList_append_own _ rfl (.tmp 22) (.tmp 25) 31 rfl (w.heap.size + 1) 20 i0 .nilIface 1 16 Try.underlying31 hi0 hz0 hz1 hz2 rfl (by decide) u3 xs.length xs rfl (hown.alloc _) ⟨wr.heap.size, 0, none⟩ 1 1 [strV x] rfl rfl (cell_one_new _ _ _) p1 p3 p4 (p5 _) ?_; intro v1 w1 hown1 hgr1 _)
          have hb1 : Below (w.heap.size + 1) (w.alloc (.cells #[.slice none 0 0] 27)) w1 := (hb.alloc (by omega) _).grown hgr1 (by simp; omega) (fun j hj => (hown.lt j hj).1)
          go_round
          case rel => exact ⟨k + 1, by omega, by go_num, by rw [hO'.out]; simpa using hown1, hb1, by have := hgr1.size; simp at this; omega⟩
          case measure => simp [intOf]; omega
      · rcases Nat.eq_zero_or_pos x.size with hz | hz
        · have z1 : x.toList.isEmpty = true := by rw [empty_iff]; exact decide_eq_true hz
          have hO' : Hid (outs l (k + 1) = outs l k ++ [wildV]) := by rw [Hid, hO.out, stepV, stepE, if_neg (by omega), if_pos hz]; rfl
          clear hO hz
          generalize outs l k = xs at *
          have p1 : ∀ u ∈ [strV x], u.oneCell' = true := by simp [strV, Value.oneCell']
          have p2 : ∀ u ∈ [wildV], u.oneCell' = true := by simp [wildV, Value.oneCell']
          have q0 : xs.length ≤ 200 := by omega
          have p4 : (xs.length + 1) * 16 ≤ 140737488355328 := mul16 (by omega)
          have p4b : (xs.length + 1 + 1) * 16 ≤ 140737488355328 := mul16 (by omega)
          have p3 : xs.length + 1 ≤ maxLen := small_le (by omega)
          have p3b : xs.length + 1 + 1 ≤ maxLen := small_le (by omega)
          have p5 : ∀ o, w.heap.size + 1 ≤ (wr.alloc o).heap.size := fun o => by simp; omega
          go_wp2_with (at_builtin; refine wpList_append_own _ rfl (.tmp 15) (.tmp 18) 31 rfl (w.heap.size + 1) 20 i0 .nilIface 1 16 Try.underlying31 hi0 hz0 hz1 hz2 rfl (by decide) u3 xs.length xs rfl (hown.alloc _) ⟨wr.heap.size, 0, none⟩ 1 1 [wildV] rfl rfl (cell_one_new _ _ _) p2 p3 p4 (p5 _) ?_; intro v1 w1 hown1 hgr1 _)
          have hb1 : Below (w.heap.size + 1) (w.alloc (.cells #[.slice none 0 0] 27)) w1 := (hb.alloc (by omega) _).grown hgr1 (by simp; omega) (fun j hj => (hown.lt j hj).1)
          go_round
          case rel => exact ⟨k + 1, by omega, by go_num, by rw [hO'.out]; simpa using hown1, hb1, by have := hgr1.size; simp at this; omega⟩
          case measure => simp [intOf]; omega
        · have z1 : x.toList.isEmpty = false := by rw [empty_iff]; exact decide_eq_false (by omega)
          have hO' : Hid (outs l (k + 1) = outs l k ++ [wildV] ++ [strV x]) := by rw [Hid, hO.out, stepV, stepE, if_neg (by omega), if_neg (by omega)]; simp [wildV, strV, elV]
          clear hO
          generalize outs l k = xs at *
          have p1 : ∀ u ∈ [strV x], u.oneCell' = true := by simp [strV, Value.oneCell']
          have p2 : ∀ u ∈ [wildV], u.oneCell' = true := by simp [wildV, Value.oneCell']
          have q0 : xs.length ≤ 200 := by omega
          have p4 : (xs.length + 1) * 16 ≤ 140737488355328 := mul16 (by omega)
          have p4b : (xs.length + 1 + 1) * 16 ≤ 140737488355328 := mul16 (by omega)
          have p3 : xs.length + 1 ≤ maxLen := small_le (by omega)
          have p3b : xs.length + 1 + 1 ≤ maxLen := small_le (by omega)
          have p5 : ∀ o, w.heap.size + 1 ≤ (wr.alloc o).heap.size := fun o => by simp; omega
          go_wp2_with (first
            | (at_builtin; refine wpList_append_own _ rfl (.tmp 15) (.tmp 18) 31 rfl (w.heap.size + 1) 20 i0 .nilIface 1 16 Try.underlying31 hi0 hz0 hz1 hz2 rfl (by decide) u3 xs.length xs rfl (hown.alloc _) ⟨wr.heap.size, 0, none⟩ 1 1 [wildV] rfl rfl (cell_one_new _ _ _) p2 p3 p4 (p5 _) ?_; intro v1 w1 hown1 hgr1 _; have hs1 := hgr1.size; simp only [World.size_alloc] at hs1; have p5b : ∀ o, w.heap.size + 1 ≤ (w1.alloc o).heap.size := fun o => by simp; omega)
            | (at_builtin; refine wpList_append_own _ rfl (.tmp 22) (.tmp 25) 31 rfl (w.heap.size + 1) 20 i0 .nilIface 1 16 Try.underlying31 hi0 hz0 hz1 hz2 rfl (by decide) v1 (xs.length + 1) (xs ++ [wildV]) rfl (hown1.alloc _) ⟨w1.heap.size, 0, none⟩ 1 1 [strV x] rfl rfl (cell_one_new _ _ _) p1 p3b p4b (p5b _) ?_; intro v2 w2 hown2 hgr2 _))
          have hb1 : Below (w.heap.size + 1) (w.alloc (.cells #[.slice none 0 0] 27)) w1 := (hb.alloc (by omega) _).grown hgr1 (by simp; omega) (fun j hj => (hown.lt j hj).1)
          have hb2 : Below (w.heap.size + 1) (w.alloc (.cells #[.slice none 0 0] 27)) w2 := (hb1.alloc (by omega) _).grown hgr2 (by simp; omega) (fun j hj => (hown1.lt j hj).1)
          go_round
          case rel => exact ⟨k + 1, by omega, by go_num, by rw [hO'.out]; simpa using hown2, hb2, by have := hgr2.size; simp at this; omega⟩
          case measure => simp [intOf]; omega
    · obtain rfl : k = l.length := by omega
      rcases hown.2 with ⟨_, h0⟩ | ⟨g1, cap1, cur, rfl, hg1, hh, hn1, hm1, hs1, ht1⟩
      · exact absurd (List.eq_nil_of_length_eq_zero (by simpa [outs] using h0)) HE.out
      have hg2 : g1 < wr.heap.size := (hown.lt g1 rfl).2
      have hcs : ∀ k x, (outE l l.length)[k]? = some x → wr.cell? ⟨g1, k, none⟩ = some (elV x) := fun k x hx => by
        have hk : k < (outE l l.length).length := (List.getElem?_eq_some_iff.1 hx).1
        rw [hown.cellAt k (by simpa [outs] using hk)]
        simp [outs, hx]
      have hlen : (outs l l.length).length = (outE l l.length).length := by simp [outs]
      rw [hlen] at hown
      have d1 : wr.cell? ⟨w.heap.size, 0, none⟩ = some (.slice none 0 0) := (hb.cell (p := ⟨w.heap.size, 0, none⟩) (by simp)).trans (by simp)
      have d2 : wr.frozen? ⟨w.heap.size, 0, none⟩ = false := (hb.frozen (p := ⟨w.heap.size, 0, none⟩) (by simp)).trans (by simp)
      have hb2 : Below w.heap.size w wr := ((Below.refl w.heap.size w).alloc (Nat.le_refl _) _).trans (hb.mono (by omega))
      have HB2 := Lib.hid hb2
      have HCS := Lib.hid hcs
      clear hh hs1 ht1 hn1 hm1 hb hb2 hcs hown
      rw [hlen]
      clear hlen
      go_wp2_with fail
      refine (np_7 g1 cap1 (outE l l.length) (fun x hx => HL.out x (mem_outE l l.length (Nat.le_refl _) x hx)) (by have := outE_le l l.length; omega) wr hg2 HCS.out HR.out).mono ?_
      rintro e w3 ⟨g', cap', rfl, hC, hg3, hg4, hb3⟩
      generalize (outE l l.length).foldl np [] = R at *
      have e1 : w3.cell? ⟨w.heap.size, 0, none⟩ = some (.slice none 0 0) := (hb3.cell (p := ⟨w.heap.size, 0, none⟩) (by simp; omega)).trans d1
      have e2 : w3.frozen? ⟨w.heap.size, 0, none⟩ = false := (hb3.frozen (p := ⟨w.heap.size, 0, none⟩) (by simp; omega)).trans d2
      have hc3 : ∀ u, Comps (w3.setCell ⟨w.heap.size, 0, none⟩ u) g' R := fun u k x hx => by
        have := hC k x hx
        exact ⟨(World.cell?_setCell_other w3 ⟨w.heap.size, 0, none⟩ ⟨g', k * 2, none⟩ u (by intro e; injection e; omega)).trans this.1, (World.cell?_setCell_other w3 ⟨w.heap.size, 0, none⟩ ⟨g', k * 2 + 1, none⟩ u (by intro e; injection e; omega)).trans this.2⟩
      have H3 := Lib.hid hc3
      have HB3 : Hid (Below w.heap.size w w3) := HB2.out.trans (hb3.mono (by omega))
      clear hC hc3 hb3 d1 d2
      go_wp2_with fail
      exact bodyPost_ret (v := .agg #[.slice (some ⟨g', 0, none⟩) R.length cap']) (by simp [results, Try.results5, go_sem, e1]) rfl ⟨g', cap', rfl, H3.out _, by omega, by simp; omega, HB3.out.setCell (by simp) _⟩
end Go.Proofs.Ytjbehjihpjdimaa
