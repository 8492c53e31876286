/-
  What NewPattern makes of strings and wildcards. Lemmas for this seat's law.
-/
import Derived.Test.YtjbehjihpjdimaaMt
import Derived.OwnWalk
namespace Go.Proofs.Ytjbehjihpjdimaa
open Go.ChangeShapes Go.WideShapes Go.ChangeAt Go.RowKit
set_option linter.unusedVariables false

@[go_sem] theorem ta33_9 (v : Value) (w : World) : (Instr.typeAssert (.iface 33 v) 20 9 true).run Try.prog w = .ok (.tuple #[.string ⟨#[]⟩, .bool false]) w := by kernel_rfl
@[go_sem] theorem ta33_30 (v : Value) (w : World) : (Instr.typeAssert (.iface 33 v) 20 30 true).run Try.prog w = .ok (.tuple #[.string ⟨#[]⟩, .bool false]) w := by kernel_rfl
@[go_sem] theorem ta33_33 (v : Value) (w : World) : (Instr.typeAssert (.iface 33 v) 20 33 true).run Try.prog w = .ok (.tuple #[v, .bool true]) w := by kernel_rfl
@[go_sem] theorem ta30_9 (v : Value) (w : World) : (Instr.typeAssert (.iface 30 v) 20 9 true).run Try.prog w = .ok (.tuple #[.string ⟨#[]⟩, .bool false]) w := by kernel_rfl
@[go_sem] theorem ta30_30 (v : Value) (w : World) : (Instr.typeAssert (.iface 30 v) 20 30 true).run Try.prog w = .ok (.tuple #[v, .bool true]) w := by kernel_rfl
theorem info36 : (Try.prog.info? 36).map (fun i => (i.zero, i.size, i.bytes)) = some (some (.agg #[.bool false, .string ⟨#[]⟩]), 2, 24) := by kernel_rfl
def elV : Option ByteArray → Value
  | none => .iface 33 (.agg #[])
  | some s => .iface 30 (.string s)
def npLast (cs : List (Bool × ByteArray)) (s : ByteArray) : List (Bool × ByteArray) :=
  match cs.getLast? with
  | none => [(false, s)]
  | some (b, t) => cs.dropLast ++ [(b, t ++ s)]
def np (cs : List (Bool × ByteArray)) : Option ByteArray → List (Bool × ByteArray)
  | some s => npLast cs s
  | none => match cs.getLast? with
    | none => [(true, ByteArray.empty)]
    | some (_, t) => if t.size = 0 then cs else cs ++ [(true, ByteArray.empty)]
def compC : List (Bool × ByteArray) → List Value
  | [] => []
  | (b, t) :: cs => .bool b :: .string t :: compC cs

theorem compC_append (a b : List (Bool × ByteArray)) : compC (a ++ b) = compC a ++ compC b := by
  induction a with
  | nil => rfl
  | cons x a ih => obtain ⟨p, q⟩ := x; simp [compC, ih]
theorem compC_length (a : List (Bool × ByteArray)) : (compC a).length = a.length * 2 := by
  induction a with
  | nil => rfl
  | cons x a ih => obtain ⟨p, q⟩ := x; simp [compC, ih]; omega
theorem cell_two_new (w : World) (a b : Value) (t : TypeId) : ∀ j u, [a, b][j]? = some u → (w.alloc (.cells #[a, b] t)).cell? ((⟨w.heap.size, 0, none⟩ : Addr).add j) = some u := by
  intro j u hu
  match j, hu with
  | 0, hu => simp at hu; subst hu; simp [Addr.add]
  | 1, hu => simp at hu; subst hu; simp [Addr.add]
  | j + 2, hu => simp at hu
theorem compC_set (a : List (Bool × ByteArray)) (b : Bool) (t t' : ByteArray) : (compC (a ++ [(b, t)])).set (a.length * 2 + 1) (.string t') = compC (a ++ [(b, t')]) := by
  rw [compC_append, compC_append, ← compC_length a, List.set_append_right _ _ (by omega)]
  have : (compC a).length + 1 - (compC a).length = 1 := by omega
  rw [this]; rfl
def NpPost (R : List (Bool × ByteArray)) (w : World) (e : Ending) (w' : World) : Prop :=
  ∃ g' cap', e = .returned (.agg #[.slice (some ⟨g', 0, none⟩) R.length cap']) ∧ Comps w' g' R ∧ w.heap.size ≤ g' ∧ g' < w'.heap.size ∧ Below w.heap.size w w'
theorem compC_get (cs : List (Bool × ByteArray)) (k : Nat) (x : Bool × ByteArray) (h : cs[k]? = some x) : (compC cs)[k * 2]? = some (.bool x.1) ∧ (compC cs)[k * 2 + 1]? = some (.string x.2) := by
  induction cs generalizing k with
  | nil => simp at h
  | cons y cs ih =>
    obtain ⟨b, t⟩ := y
    cases k with
    | zero => simp at h; subst h; exact ⟨rfl, rfl⟩
    | succ k =>
      have := ih k (by simpa using h)
      have e1 : (k + 1) * 2 = k * 2 + 1 + 1 := by omega
      rw [e1, compC]
      simpa using this
theorem comps_of_own {w : World} {B g n cap : Nat} {cs : List (Bool × ByteArray)} (hn : n = cs.length) (h : w.ownsRow B 36 2 (.slice (some ⟨g, 0, none⟩) n cap) n (compC cs)) : Comps w g cs := by
  intro k x hx
  have hk : k < cs.length := by
    rcases Nat.lt_or_ge k cs.length with h | h
    · exact h
    · rw [List.getElem?_eq_none h] at hx; cases hx
  have := compC_get cs k x hx
  rw [h.cellAt (k * 2) (by omega), h.cellAt (k * 2 + 1) (by omega)]
  exact this
theorem mul24 {n : Nat} (h : n ≤ 1000) : n * 24 ≤ 140737488355328 := by omega
theorem small_le {n : Nat} (h : n ≤ 1000) : n ≤ maxLen := Nat.le_trans h (by decide)

set_option maxHeartbeats 1000000 in
theorem np_7 (g cap : Nat) (es : List (Option ByteArray)) (hl : ∀ x, some x ∈ es → x.size ≤ 1000) (hn : es.length ≤ 100) (w : World) (hg : g < w.heap.size) (hc : ∀ k x, es[k]? = some x → w.cell? ⟨g, k, none⟩ = some (elV x)) (hR : es.foldl np [] ≠ []) :
    Calls Try.prog 7 #[.slice (some ⟨g, 0, none⟩) es.length cap] w (NpPost (es.foldl np []) w) := by
  have HR := Lib.hid hR
  clear hR
  obtain ⟨i0, hi0, hz0, hz1, hz2⟩ := info_parts info36
  have hc' : ∀ o k x, es[k]? = some x → (w.alloc o).cell? ⟨g, k, none⟩ = some (elV x) := fun o k x hx => (World.cell?_alloc_lt w o ⟨g, k, none⟩ hg).trans (hc k x hx)
  have HC := Lib.hid hc'
  clear hc hc'
  go_enter Try.func7, Try.ntmps7
  go_wp2_with fail
  go_loopw [3, 12] (fun v i wr => ∃ (k : Nat) (cs : List (Bool × ByteArray)), k ≤ es.length ∧ i = .int .i64 (k : Int) ∧ Hid (cs = (es.take k).foldl np []) ∧ wr.ownsRow (w.heap.size + 1) 36 2 v cs.length (compC cs) ∧ ((cs = [] ∧ v = .slice none 0 0) ∨ 0 < cs.length) ∧ cs.length ≤ k ∧ Hid (∀ x ∈ cs, x.2.size ≤ 1000 * k) ∧ Below (w.heap.size + 1) (w.alloc (.cells #[.slice none 0 0] 27)) wr ∧ w.heap.size < wr.heap.size) (fun _ i _ => es.length - (intOf i).toNat)
  case atStart => exact ⟨0, [], by omega, rfl, rfl, ⟨rfl, .inl ⟨rfl, rfl⟩⟩, .inl ⟨rfl, rfl⟩, by simp, fun x hx => by (cases hx), Below.refl _ _, by simp⟩
  case round =>
    obtain ⟨k, cs, hk, rfl, hcs, hown, hnil, hck, hsm, hb, hsz⟩ := hrel
    by_cases hlt : k < es.length
    · obtain ⟨x, hx⟩ : ∃ x, es[k] = x := ⟨_, rfl⟩
      have hN : Hid (np cs x = (es.take (k + 1)).foldl np []) := by
        rw [Hid, List.take_add_one, List.getElem?_eq_getElem hlt, hx, List.foldl_append, ← hcs.out]; rfl
      have c1 : wr.cell? ⟨g, k, none⟩ = some (elV x) := (hb.cell (p := ⟨g, k, none⟩) (by show g < _; omega)).trans (HC.out _ k x (by rw [List.getElem?_eq_getElem hlt, hx]))
      have hxs : ∀ s, x = some s → s.size ≤ 1000 := fun s e => hl s (by rw [← e, ← hx]; exact List.getElem_mem hlt)
      have p1 : ∀ u ∈ [Value.bool true, Value.string ⟨#[]⟩], u.oneCell' = true := by simp [Value.oneCell']
      have p3 : cs.length + 1 ≤ maxLen := small_le (by omega)
      have p4 : (cs.length + 1) * 24 ≤ 140737488355328 := mul24 (by omega)
      have p5 : ∀ o o', w.heap.size + 1 ≤ ((wr.alloc o).alloc o').heap.size := fun o o' => by simp; omega
      clear hcs hx
      rcases hnil with ⟨rfl, rfl⟩ | hpos
      · cases x with
        | none =>
          rw [elV] at c1
          clear hxs
          go_wp2_with (at_builtin; refine wpList_append_own _ rfl (.tmp 72) (.tmp 74) 25 rfl (w.heap.size + 1) 36 i0 (.agg #[.bool false, .string ⟨#[]⟩]) 2 24 Try.underlying25 hi0 hz0 hz1 hz2 rfl (by decide) (.slice none 0 0) 0 [] rfl ((hown.alloc _).alloc _) ⟨wr.heap.size + 1, 0, none⟩ 1 1 [.bool true, .string ⟨#[]⟩] rfl rfl (by simpa using cell_two_new (wr.alloc _) _ _ _) p1 p3 p4 (p5 _ _) ?_; intro v1 w1 hown1 hgr1 _)
          have hb1 : Below (w.heap.size + 1) (w.alloc (.cells #[.slice none 0 0] 27)) w1 := ((hb.alloc (by omega) _).alloc (by simp; omega) _).grown hgr1 (by simp; omega) (fun j hj => by simp [Value.ownBlock] at hj)
          go_round
          case rel => exact ⟨k + 1, [(true, ⟨#[]⟩)], by omega, by go_num, hN, by simpa [compC] using hown1, .inr (by simp), by simp, fun x hx => by (simp at hx; subst hx; show 0 ≤ _; omega), hb1, by have := hgr1.size; simp at this; omega⟩
          case measure => simp [intOf]; omega
        | some s =>
          rw [elV] at c1
          have hss : s.size ≤ 1000 := hxs s rfl
          clear hxs p1
          go_wp2_with fail
          go_round
          case rel =>
            refine ⟨k + 1, [(false, s)], by omega, by go_num, hN, ?_, .inr (by simp), by simp, fun x hx => by (simp at hx; subst hx; show s.size ≤ _; omega), hb.alloc (by omega) _, by simp; omega⟩
            have := World.ownsRow_lit (base := w.heap.size + 1) (e := 36) (size := 2) wr #[.bool false, .string (⟨#[]⟩ ++ s)] 1 (by omega) (by decide) rfl
            have e : (⟨#[]⟩ : ByteArray) ++ s = s := ByteArray.empty_append
            rw [e] at this ⊢
            exact this
          case measure => simp [intOf]; omega
      · obtain ⟨ini, ⟨lb, lt⟩, rfl⟩ : ∃ ini y, cs = ini ++ [y] := ⟨cs.dropLast, cs.getLast (by intro e; rw [e] at hpos; simp at hpos), (List.dropLast_concat_getLast _).symm⟩
        have hlts : lt.size ≤ 1000 * k := hsm.out (lb, lt) (by simp)
        have hlen : (ini ++ [(lb, lt)]).length = ini.length + 1 := by simp
        rw [hlen] at hown hck p3 p4
        rcases hown.2 with ⟨_, h0⟩ | ⟨g1, cap1, cur, rfl, hg1, hh, hn1, hm1, hs1, ht1⟩
        · omega
        have hcl : wr.cell? ⟨g1, ini.length * 2 + 1, none⟩ = some (.string lt) := by
          rw [hown.cellAt (ini.length * 2 + 1) (by omega), compC_append]
          rw [List.getElem?_append_right (by rw [compC_length]; omega), compC_length]
          have : ini.length * 2 + 1 - ini.length * 2 = 1 := by omega
          rw [this]; rfl
        have hcf : wr.frozen? ⟨g1, ini.length * 2 + 1, none⟩ = false := hown.frozenAt _
        have hg2 : g1 < wr.heap.size := (hown.lt g1 rfl).2
        have hcl' : ∀ o, (wr.alloc o).cell? ⟨g1, ini.length * 2 + 1, none⟩ = some (.string lt) := fun o => (World.cell?_alloc_lt wr o ⟨g1, _, none⟩ hg2).trans hcl
        clear hh hs1 ht1 hlen hpos
        cases x with
        | none =>
          rw [elV] at c1
          clear hxs
          rcases Nat.eq_zero_or_pos lt.size with hz | hz
          · have z1 : lt.toList.isEmpty = true := by rw [empty_iff]; exact decide_eq_true hz
            have hN' : Hid (ini ++ [(lb, lt)] = (es.take (k + 1)).foldl np []) := by
              have := hN.out; simp [np, hz] at this; exact this
            clear hz
            go_wp2_with fail
            go_round
            case rel => exact ⟨k + 1, _, by omega, by go_num, hN', by simpa using hown.alloc _, .inr (by simp), by simp; omega, fun x hx => Nat.le_trans (hsm.out x hx) (by omega), hb.alloc (by omega) _, by simp; omega⟩
            case measure => simp [intOf]; omega
          · have z1 : lt.toList.isEmpty = false := by rw [empty_iff]; exact decide_eq_false (by omega)
            have hN' : Hid (ini ++ [(lb, lt)] ++ [(true, ⟨#[]⟩)] = (es.take (k + 1)).foldl np []) := by
              have h0 : ¬ lt.size = 0 := by omega
              have := hN.out; simp only [np, List.getLast?_concat, if_neg h0] at this; exact this
            go_wp2_with (at_builtin; refine wpList_append_own _ rfl (.tmp 72) (.tmp 74) 25 rfl (w.heap.size + 1) 36 i0 (.agg #[.bool false, .string ⟨#[]⟩]) 2 24 Try.underlying25 hi0 hz0 hz1 hz2 rfl (by decide) (.slice (some ⟨g1, 0, none⟩) (ini.length + 1) cap1) (ini.length + 1) (compC (ini ++ [(lb, lt)])) rfl ((hown.alloc _).alloc _) ⟨wr.heap.size + 1, 0, none⟩ 1 1 [.bool true, .string ⟨#[]⟩] rfl rfl (by simpa using cell_two_new (wr.alloc _) _ _ _) p1 p3 p4 (p5 _ _) ?_; intro v1 w1 hown1 hgr1 _)
            have hb1 : Below (w.heap.size + 1) (w.alloc (.cells #[.slice none 0 0] 27)) w1 := ((hb.alloc (by omega) _).alloc (by simp; omega) _).grown hgr1 (by simp; omega) (fun j hj => (hown.lt j hj).1)
            go_round
            case rel => exact ⟨k + 1, _, by omega, by go_num, hN', by rw [compC_append]; simpa [compC] using hown1, .inr (by simp), by simp; omega, fun x hx => by
              (rcases List.mem_append.1 hx with h | h
               · exact Nat.le_trans (hsm.out x h) (by omega)
               · simp at h; subst h; show 0 ≤ _; omega), hb1, by have := hgr1.size; simp at this; omega⟩
            case measure => simp [intOf]; omega
        | some s =>
          rw [elV] at c1
          have hss : s.size ≤ 1000 := hxs s rfl
          have hN' : Hid (ini ++ [(lb, lt ++ s)] = (es.take (k + 1)).foldl np []) := by
            have := hN.out; simp [np, npLast] at this; exact this
          have hst := (hown.stored (ini.length * 2 + 1) (.string (lt ++ s)))
          clear hxs p1 p3 p4
          go_wp2_with fail
          go_round
          case rel => exact ⟨k + 1, _, by omega, by go_num, hN', by have := hst.1; rw [compC_set] at this; simpa using this, .inr (by simp), by simp; omega, fun x hx => by
            (rcases List.mem_append.1 hx with h | h
             · exact Nat.le_trans (hsm.out x (List.mem_append_left _ h)) (by omega)
             · simp at h; subst h; show (lt ++ s).size ≤ _; rw [ByteArray.size_append]; omega), hb.setCell hg1 _, by simp; omega⟩
          case measure => simp [intOf]; omega
    · obtain rfl : k = es.length := by omega
      have hcs' : Hid (cs = es.foldl np []) := by have := hcs.out; rw [List.take_length] at this; exact this
      clear hcs
      rcases hnil with ⟨rfl, rfl⟩ | hpos
      · exact absurd hcs'.out.symm HR.out
      rcases hown.2 with ⟨_, h0⟩ | ⟨g1, cap1, cur, rfl, hg1, hh, hn1, hm1, hs1, ht1⟩
      · omega
      have hg2 : g1 < wr.heap.size := (hown.lt g1 rfl).2
      have HH := Lib.hid hh
      have HT := Lib.hid ht1
      clear hh ht1 hs1
      have d1 : wr.cell? ⟨w.heap.size, 0, none⟩ = some (.slice none 0 0) := (hb.cell (p := ⟨w.heap.size, 0, none⟩) (by simp)).trans (by simp)
      have d2 : wr.frozen? ⟨w.heap.size, 0, none⟩ = false := (hb.frozen (p := ⟨w.heap.size, 0, none⟩) (by simp)).trans (by simp)
      have hc2 := comps_of_own rfl hown
      have hb2 : Below w.heap.size w wr := ((Below.refl w.heap.size w).alloc (Nat.le_refl _) _).trans (hb.mono (by omega))
      have hc3 : ∀ u, Comps (wr.setCell ⟨w.heap.size, 0, none⟩ u) g1 cs := fun u k x hx => by
        have := hc2 k x hx
        exact ⟨(World.cell?_setCell_other wr ⟨w.heap.size, 0, none⟩ ⟨g1, k * 2, none⟩ u (by intro e; injection e; omega)).trans this.1, (World.cell?_setCell_other wr ⟨w.heap.size, 0, none⟩ ⟨g1, k * 2 + 1, none⟩ u (by intro e; injection e; omega)).trans this.2⟩
      have H3 := Lib.hid hc3
      have HB2 := Lib.hid hb2
      clear hc2 hb hc3 hb2
      go_wp2_with fail
      refine bodyPost_ret (v := .agg #[.slice (some ⟨g1, 0, none⟩) cs.length cap1]) (by simp [results, Try.results7, go_sem, d1]) rfl ⟨g1, cap1, by rw [← hcs'.out], by rw [← hcs'.out]; exact H3.out _, by omega, by simp; omega, HB2.out.setCell (by simp) _⟩
end Go.Proofs.Ytjbehjihpjdimaa
