/-
  What the rows' listed variables give the walks, and that the program's own initialisers meet it. Lemmas for this seat's laws.
-/
import Derived.Test.YtnoiijficdoglaaDoorCards
import Derived.Test.YtnoiijficdoglaaDoorTie
import Derived.Test.YtnoiijficdoglaaDoorLaw
import Derived.LaidMore
import Derived.Stop.Joined
import Derived.Deep.DeepHandedRow
import Derived.Deep.DeepWitnessRowRef
import Derived.Lib.LaidTab
namespace Go.Proofs.YtnoiijficdoglaaDoor
open Go.ChangeShapes Go.WideShapes Go.ChangeAt Go.RowKit
set_option linter.unusedVariables false

section
variable {H : Type} {enc : TypeId × Value → H} {P : Program} {w : World} {base : Nat} {sp : Nat → Bool} {held : Bool}
theorem trod_float {k : FloatKind} {fuel : Nat} {t : TypeId} {cs : List Value} {x : DataW H × List MemPlace} (ht : P.underlying t = some (.float k)) (h : DataW.trod enc P w base sp held fuel t cs = some x) : ∃ n, cs = [.float k n] ∧ x = (.lit (.float k n), []) := by
  cases fuel with
  | zero => simp [DataW.trod] at h
  | succ n =>
    unfold DataW.trod at h
    rw [ht] at h
    split at h <;> simp_all
theorem cells_of_ftab {fuel : Nat} {t e : TypeId} {n : Nat} {k : FloatKind} {cs : List Value} {zs : List Nat} {p : List MemPlace}
    (ht : P.underlying t = some (.array n e)) (he : P.underlying e = some (.float k)) (hce : P.cellsOf e = 1) (hct : P.cellsOf t = n)
    (h : DataW.trod enc P w base sp held fuel t cs = some (.agg (zs.map fun z => .lit (.float k z)), p)) : cs = zs.map fun z => Value.float k z := by
  cases fuel with
  | zero => simp [DataW.trod] at h
  | succ fuel =>
    simp only [DataW.trod, ht, hce, hct, Nat.mul_one] at h
    split at h
    · rename_i hl
      obtain ⟨xs, hm, hx⟩ := Option.map_eq_some_iff.1 h
      have hxs : xs.map (·.1) = zs.map fun z => (DataW.lit (.float k z) : DataW H) := by
        have := congrArg Prod.fst hx
        simpa using this
      have hxl : xs.length = n := by simpa using Lib.mapM_length hm
      have hzl : zs.length = n := by
        have := congrArg List.length hxs
        simp at this
        omega
      apply List.ext_getElem?
      intro i
      by_cases hi : i < n
      · obtain ⟨b, hb, hf⟩ := Lib.mapM_at hm i i (by simp [hi])
        obtain ⟨z, hc, rfl⟩ := trod_float he hf
        have h1 : cs[i]? = some (.float k z) := by
          have := congrArg (·[0]?) hc
          simpa [List.getElem?_take, List.getElem?_drop] using this
        have h2 : (xs.map (·.1))[i]? = some (DataW.lit (.float k z) : DataW H) := by simp [hb]
        rw [hxs] at h2
        simp only [List.getElem?_map, Option.map_eq_some_iff, DataW.lit.injEq, Lit.float.injEq, true_and] at h2
        obtain ⟨z', hz', rfl⟩ := h2
        simp [h1, hz']
      · rw [List.getElem?_eq_none (by omega), List.getElem?_eq_none (by simp; omega)]
    · cases h
theorem iface_form {fuel : Nat} {t : TypeId} {ms : Array (String × TypeId)} {cs : List Value} {s : String} {d : DataW H} {p : List MemPlace}
    (ht : P.underlying t = some (.interface ms)) (h : DataW.trod enc P w base sp held fuel t cs = some (.iface s d, p)) : ∃ u v, cs = [.iface u v] := by
  cases fuel with
  | zero => simp [DataW.trod] at h
  | succ fuel =>
    unfold DataW.trod at h
    rw [ht] at h
    split at h <;> simp_all
end

theorem cell_lt {w : World} {a : Addr} {v : Value} (h : w.cell? a = some v) : a.block < w.heap.size := by
  rcases Nat.lt_or_ge a.block w.heap.size with hlt | hge
  · exact hlt
  · simp [World.cell?, Array.getElem?_eq_none hge] at h

theorem gTab : Tryd.prog.globalNamed "math.pow10tab" = some 3 := by kernel_rfl
theorem gPos : Tryd.prog.globalNamed "math.pow10postab32" = some 2 := by kernel_rfl
theorem gNeg : Tryd.prog.globalNamed "math.pow10negtab32" = some 4 := by kernel_rfl
theorem gErr : Tryd.prog.globalNamed "pub-claviger/pub/cedargo/inner.ErrDecimal" = some 0 := by kernel_rfl
theorem tTab : (Tryd.prog.globals[3]?).map (·.type) = some 43 := by kernel_rfl
theorem tPos : (Tryd.prog.globals[2]?).map (·.type) = some 41 := by kernel_rfl
theorem tErr : (Tryd.prog.globals[0]?).map (·.type) = some 30 := by kernel_rfl
theorem c37 : Tryd.prog.cellsOf 37 = 1 := by kernel_rfl
theorem c43 : Tryd.prog.cellsOf 43 = 32 := by kernel_rfl
theorem c41 : Tryd.prog.cellsOf 41 = 10 := by kernel_rfl

def tabZ : List Nat := [4607182418800017408, 4621819117588971520, 4636737291354636288, 4652007308841189376, 4666723172467343360, 4681608360884174848, 4696837146684686336, 4711630319722168320, 4726483295884279808, 4741671816366391296, 4756540486875873280, 4771362005757984768, 4786511204640096256, 4801453603149578240, 4816244402031689728, 4831355200913801216, 4846369599423283200, 4861130398305394688, 4876203697187506176, 4891288408196988160, 4906019910204099648, 4921056587992461136, 4936209963552724370, 4950912855330343670, 4965913770331839924, 4981134201117475473, 4995809153217856309, 5010775143622804482, 5026061058026967681, 5040708725286295329, 5055640609639927018, 5070927765361438756]
def posZ : List Nat := [4607182418800017408, 5085611494797045271, 5564284217833028085, 6043257259031049059, 6521906365687930162, 7000496887210966211, 7479368607221621995, 7958223736346011545, 8436737289693151036, 8915514139102383430]

/-- WHAT THE ROW's LIST GIVES THE WALKS. -/
theorem of_laid {W : World} (h : laidMetH Tryd.prog Rows.fnDecimalOfRow.laid W) : Pows W ∧ ∃ t u, Err W t u := by
  rw [MakeChecks.laidMetH_plain _ _ _ (by kernel_rfl)] at h
  obtain ⟨ps, ⟨g0, t0, cs0, f0, p0, q0, hg0, ht0, hv0, hd0, ⟨g1, t1, cs1, f1, p1, q1, hg1, ht1, hv1, hd1, ⟨g2, t2, cs2, f2, p2, q2, hg2, ht2, hv2, hd2, ⟨g3, t3, cs3, f3, p3, q3, hg3, ht3, hv3, hd3, _, _⟩, _⟩, _⟩, _⟩, _⟩ := h
  obtain rfl := Option.some.inj (gTab.symm.trans hg0)
  obtain rfl := Option.some.inj (gPos.symm.trans hg1)
  obtain rfl := Option.some.inj (gErr.symm.trans hg3)
  obtain rfl := Option.some.inj (tTab.symm.trans ht0)
  obtain rfl := Option.some.inj (tPos.symm.trans ht1)
  obtain rfl := Option.some.inj (tErr.symm.trans ht3)
  have e0 : cs0.toList = tabZ.map fun z => Value.float .f64 z := cells_of_ftab Tryd.underlying43 Tryd.underlying37 c37 c43 hd0
  have e1 : cs1.toList = posZ.map fun z => Value.float .f64 z := cells_of_ftab Tryd.underlying41 Tryd.underlying37 c37 c41 hd1
  obtain ⟨u, v, e3⟩ := iface_form Tryd.underlying30 hd3
  have k3 : W.cell? ⟨0, 0, none⟩ = some (.iface u v) := by
    have := World.var?_cell hg3 hv3 0
    rw [this, ← Array.getElem?_toList, e3]; rfl
  have k0 : ∀ k : Nat, k < 15 → W.cell? ⟨3, k, none⟩ = some (.float .f64 (fbs.getD k 0)) := by
    intro k hk
    have := World.var?_cell hg0 hv0 k
    rw [this, ← Array.getElem?_toList, e0]
    have : k = 0 ∨ k = 1 ∨ k = 2 ∨ k = 3 ∨ k = 4 ∨ k = 5 ∨ k = 6 ∨ k = 7 ∨ k = 8 ∨ k = 9 ∨ k = 10 ∨ k = 11 ∨ k = 12 ∨ k = 13 ∨ k = 14 := by omega
    rcases this with rfl | rfl | rfl | rfl | rfl | rfl | rfl | rfl | rfl | rfl | rfl | rfl | rfl | rfl | rfl <;> rfl
  have k1 : W.cell? ⟨2, 0, none⟩ = some (.float .f64 4607182418800017408) := by
    have := World.var?_cell hg1 hv1 0
    rw [this, ← Array.getElem?_toList, e1]; rfl
  exact ⟨⟨k1, k0, cell_lt (k0 0 (by omega))⟩, u, v, k3, cell_lt k3⟩

theorem door_met (os : Os) (args : Array Value) : laidMetH Tryd.prog Rows.fnDecimalOfRow.laid ((World.doorLaid Tryd.prog 43 os).forCall (fun _ _ => 0) ⟨#[], args, []⟩).memory :=
  laidMetH_of_parts3 (fuel := 8) (laidMet_of_run' 8 (by kernel_rfl) (by kernel_rfl)) (by kernel_rfl) (by kernel_rfl)
end Go.Proofs.YtnoiijficdoglaaDoor
