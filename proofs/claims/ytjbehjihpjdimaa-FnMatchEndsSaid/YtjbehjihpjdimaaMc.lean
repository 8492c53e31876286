/-
  What matchChunk returns: whether the one text begins with the other, and what is behind it. Lemmas for this seat's law.
-/
import Derived.Test.YtjbehjihpjdimaaRows
import Derived.WalkKit
import Derived.ProofKit
import Derived.OpenShut
import Derived.Carry
import Derived.Lib.Hide
import Derived.LoopTactic
import Derived.Deep.QuietTactic
import Derived.BigQuiet
import Derived.WalkLawsBesides
import Derived.WalkSpells
import Derived.Outline
import Derived.Lib.Strings
import Derived.Lib.IndexBytes
namespace Go.Proofs.Ytjbehjihpjdimaa
open Go.ChangeShapes Go.WideShapes Go.ChangeAt Go.RowKit
set_option linter.unusedVariables false

def mcOk (c s : ByteArray) : Bool := c.data.toList.isPrefixOf s.data.toList
def mcRest (c s : ByteArray) : ByteArray := if mcOk c s then s.extract c.size s.size else ByteArray.empty

def strLen : Value → Nat | .string x => x.size | _ => 0
theorem len_eq (c : ByteArray) : c.data.toList.length = c.size := by simp
theorem get_eq (c : ByteArray) (k : Nat) (h : k < c.size) : c.data.toList[k]? = some c[k] := by
  rw [List.getElem?_eq_getElem (by simpa using h)]; rfl
theorem ext_step (c : ByteArray) (k : Nat) (h : k < c.size) : (c.extract k c.size).extract 1 (c.size - k) = c.extract (k + 1) c.size := by
  rw [ByteArray.extract_extract]; congr 1; omega
theorem ext_head (c : ByteArray) (k : Nat) (h : k < c.size) (h0 : 0 < (c.extract k c.size).size) : (c.extract k c.size)[0] = c[k] := by
  rw [ByteArray.getElem_extract]; simp
theorem take_step (c s : ByteArray) (k : Nat) (h : k < c.size) (h' : k < s.size) (ht : c.data.toList.take k = s.data.toList.take k) (he : c[k] = s[k]) :
    c.data.toList.take (k + 1) = s.data.toList.take (k + 1) := by
  rw [List.take_add_one, List.take_add_one, ht, get_eq c k h, get_eq s k h', he]
theorem mc_yes (c s : ByteArray) (hk : c.size ≤ s.size) (ht : c.data.toList.take c.size = s.data.toList.take c.size) : mcOk c s = true := by
  unfold mcOk
  rw [List.isPrefixOf_iff_prefix, List.prefix_iff_eq_take, len_eq, ← ht, List.take_of_length_le (by rw [len_eq]; exact Nat.le_refl _)]
theorem mc_take (c s : ByteArray) (h : mcOk c s = true) : c.data.toList = s.data.toList.take c.size ∧ c.size ≤ s.size := by
  unfold mcOk at h
  rw [List.isPrefixOf_iff_prefix] at h
  have h1 := List.prefix_iff_eq_take.1 h
  have h2 := h.length_le
  rw [len_eq] at h1
  rw [len_eq, len_eq] at h2
  exact ⟨h1, h2⟩
theorem mc_short (c s : ByteArray) (h : s.size < c.size) : mcOk c s = false := by
  rcases hm : mcOk c s with _ | _
  · rfl
  · have := (mc_take c s hm).2; omega
theorem mc_other (c s : ByteArray) (k : Nat) (h : k < c.size) (h' : k < s.size) (he : c[k] ≠ s[k]) : mcOk c s = false := by
  rcases hm : mcOk c s with _ | _
  · rfl
  · exfalso
    have h1 := (mc_take c s hm).1
    have h2 := congrArg (·[k]?) h1
    simp only [List.getElem?_take, if_pos h] at h2
    rw [get_eq c k h, get_eq s k h'] at h2
    exact he (Option.some.inj h2)

theorem mc_8 (c s : ByteArray) (hc : c.size ≤ maxLen) (hs : s.size ≤ maxLen) (w : World) :
    Calls Try.prog 8 #[.string c, .string s] w fun e w' => e = .returned (.tuple #[.string (mcRest c s), .bool (mcOk c s)]) ∧ ∃ n, w' = w.drewN n := by
  have hc : c.size ≤ 9223372036854775807 := hc
  have hs : s.size ≤ 9223372036854775807 := hs
  generalize hr : mcRest c s = R
  generalize ho : mcOk c s = B
  have HR := Lib.hid hr
  have HO := Lib.hid ho
  clear hr ho
  go_enter Try.func8, Try.ntmps8
  go_wp2_with fail
  go_loopw [0, 1] (fun u v wr => ∃ k : Nat, k ≤ c.size ∧ k ≤ s.size ∧ u = .string (c.extract k c.size) ∧ v = .string (s.extract k s.size) ∧ Hid (c.data.toList.take k = s.data.toList.take k) ∧ ∃ n, wr = w.drewN n) (fun u _ _ => strLen u)
  case atStart => exact ⟨0, by omega, by omega, by simp, by simp, rfl, 0, rfl⟩
  case round =>
    obtain ⟨k, hk, hk', rfl, rfl, ht, n, rfl⟩ := hrel
    by_cases hlt : k < c.size
    · by_cases hz : k < s.size
      · have z1 : ((↑(s.size - k) : Int) == 0) = false := by rw [beq_eq_false_iff_ne]; omega
        have l1 : 0 < s.size - k := by omega
        have l2 : 0 < c.size - k := by omega
        have s1 : 0 < (c.extract k c.size).size := by simp; omega
        have s2 : 0 < (s.extract k s.size).size := by simp; omega
        by_cases he : c[k] = s[k]
        · have q : ((↑(c.extract k c.size)[0].toNat : Int) != ↑(s.extract k s.size)[0].toNat) = false := by
            rw [ext_head c k hlt, ext_head s k hz, he]; simp
          have HT : Hid (c.data.toList.take (k + 1) = s.data.toList.take (k + 1)) := take_step c s k hlt hz ht.out he
          clear he
          go_wp2_with fail
          go_quiet (fail)
          go_wp2_with fail
          go_round
          case rel => exact ⟨k + 1, by omega, by omega, by rw [ext_step c k hlt], by rw [ext_step s k hz], HT, _, rfl⟩
          case measure => simp [strLen]; omega
        · have q : ((↑(c.extract k c.size)[0].toNat : Int) != ↑(s.extract k s.size)[0].toNat) = true := by
            rw [ext_head c k hlt, ext_head s k hz, bne_iff_ne]
            intro h; exact he (UInt8.toNat_inj.1 (by omega))
          have hm := mc_other c s k hlt hz he
          have E : Hid (R = ByteArray.empty ∧ B = false) := by
            refine ⟨?_, HO.out.symm.trans hm⟩
            rw [← HR.out, mcRest, hm]; rfl
          clear he hm
          go_wp2_with fail
          go_quiet (fail)
          go_wp2_with fail
          go_ret2
          exact ⟨by rw [E.out.1, E.out.2]; rfl, n + nq, by simp⟩
      · have hm := mc_short c s (by omega)
        have E : Hid (R = ByteArray.empty ∧ B = false) := by
          refine ⟨?_, HO.out.symm.trans hm⟩
          rw [← HR.out, mcRest, hm]; rfl
        have z1 : ((↑(s.size - k) : Int) == 0) = true := by rw [beq_iff_eq]; omega
        clear hm
        go_wp2_with fail
        go_ret2
        exact ⟨by rw [E.out.1, E.out.2]; rfl, _, rfl⟩
    · obtain rfl : k = c.size := by omega
      have hm := mc_yes c s hk' ht.out
      have E : Hid (R = s.extract c.size s.size ∧ B = true) := by
        refine ⟨?_, HO.out.symm.trans hm⟩
        rw [← HR.out, mcRest, hm]; rfl
      clear hm
      go_wp2_with fail
      go_ret2
      exact ⟨by rw [E.out.1, E.out.2]; rfl, _, rfl⟩
end Go.Proofs.Ytjbehjihpjdimaa
