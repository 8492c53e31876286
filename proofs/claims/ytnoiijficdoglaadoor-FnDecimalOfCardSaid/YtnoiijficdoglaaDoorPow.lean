/-
  What math.Pow10 returns from 0 to 14, given what its tables hold. Lemmas for this seat's laws.
-/
import Derived.Test.YtnoiijficdoglaaDoorNd
namespace Go.Proofs.YtnoiijficdoglaaDoor
open Go.ChangeShapes Go.WideShapes Go.ChangeAt Go.RowKit
set_option linter.unusedVariables false

def fbs : List Nat := [4607182418800017408, 4621819117588971520, 4636737291354636288, 4652007308841189376, 4666723172467343360, 4681608360884174848, 4696837146684686336, 4711630319722168320, 4726483295884279808, 4741671816366391296, 4756540486875873280, 4771362005757984768, 4786511204640096256, 4801453603149578240, 4816244402031689728]
def fb (n : Int) : Nat := fbs.getD n.toNat 0
def tp (n : Int) : Int := 10 ^ n.toNat

/-- What the two tables hold, as far as it is read. -/
def Pows (w : World) : Prop := w.cell? ⟨2, 0, none⟩ = some (.float .f64 4607182418800017408) ∧ (∀ k : Nat, k < 15 → w.cell? ⟨3, k, none⟩ = some (.float .f64 (fbs.getD k 0))) ∧ 3 < w.heap.size
theorem Pows.drewN {w : World} (h : Pows w) (n : Nat) : Pows (w.drewN n) := h
theorem Pows.below {w w' : World} (h : Pows w) {B : Nat} (hB : 3 < B) (hb : Below B w w') : Pows w' :=
  ⟨(hb.cell (p := ⟨2, 0, none⟩) (by show 2 < B; omega)).trans h.1, fun k hk => (hb.cell (p := ⟨3, k, none⟩) hB).trans (h.2.1 k hk), Nat.lt_of_lt_of_le h.2.2 hb.size⟩

theorem mul_one (k : Nat) (hk : k < 15) : ∀ w, (binOp .mul 37 (.float .f64 4607182418800017408) (.float .f64 (fbs.getD k 0))).run Tryd.prog w = .ok (.float .f64 (fbs.getD k 0)) w := by
  match k, hk with
  | 0, _ | 1, _ | 2, _ | 3, _ | 4, _ | 5, _ | 6, _ | 7, _ | 8, _ | 9, _ | 10, _ | 11, _ | 12, _ | 13, _ | 14, _ => exact fun w => by kernel_rfl
theorem conv_val : ∀ k : Nat, k < 15 → floatToIntVal .f64 (fbs.getD k 0) .i64 = some ((10 : Int) ^ k) := by decide +kernel
theorem conv_one (k : Nat) (hk : k < 15) : ∀ w, (convert 37 2 (.float .f64 (fbs.getD k 0))).run Tryd.prog w = .ok (.int .i64 (10 ^ k)) w :=
  fun w => run_convert_float_int w 37 2 .f64 .i64 _ _ (by kernel_rfl) Tryd.underlying2 (conv_val k hk)
theorem pow_nat (k : Nat) (hk : k < 15) (w : World) (hp : Pows w) :
    Calls Tryd.prog 14 #[.int .i64 (k : Int)] w fun e w' => e = .returned (.float .f64 (fbs.getD k 0)) ∧ ∃ n, w' = w.drewN n := by
  have hm := mul_one k hk
  have h2 := hp.1
  have h3 := hp.2.1 k hk
  generalize hx : fbs.getD k 0 = x at *
  clear hx hp
  have h0 : (0 : Int) ≤ k := by omega
  have h5 : (k : Int) ≤ 308 := by omega
  have q1 : k / 32 = 0 := by omega
  have q2 : k % 32 = k := by omega
  go_enter Tryd.func14, Tryd.ntmps14
  go_wp2_with fail
  go_quiet (fail)
  go_wp2_with fail
  go_ret
  exact ⟨rfl, _, rfl⟩
end Go.Proofs.YtnoiijficdoglaaDoor
