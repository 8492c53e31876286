/-
  No cell of these rows narrows 'for every input' (looked for: loops, veiled, ifaces, maps, wideKeys, modest, calm, conditions, laid).
  DERIVED. THE GIVEN ROWS OF THIS SEAT. 3 by the template 'for every input the law returns true; each argument reads behind the call as it read before'; 0 by the template 'total and deterministic' (their statements: YtmapfaclglicnaaTotals.lean).
  GIVEN WITH THE SEED: the statements are not yours to turn. If you find one false, say at which input.
  Laid BY PROGRAM, IN A SANDBOX (cutbox-rows.mjs): the forced cells as the released guide's own fill.sh prints them over the translation 86180387e9298543… (all of the seat's roots in one cut). By AI agents, Wed Nov 11 2026. No macro, syntax, notation, axiom, sorry.
-/
import Derived.Test.YtmapfaclglicnaaChecked
import GoSem.Claim
import GoSem.ClaimJoined
import GoSem.ClaimMapViews
import Derived.JoinedTies
import Derived.KernelRfl
namespace Go.Proofs.Ytmapfaclglicnaa
/- THE CELL 'sum', in the pinned program and in every row, IS THE sha256 OF THE DUMP (.gsa) THAT YtmapfaclglicnaaProg.lean LOADS. Nothing in Lean hashes anything: it is a label: what it is worth is what the hold of that sum in a sandbox is worth. -/
noncomputable def Try.pinned : Pinned := { name := "ytmapfaclglicnaa", sum := "86180387e92985432dec98ea978eb9d04779d61fdb889fc86b3c5324886e2198", checked := Try.checked }
namespace Rows
def none {H : Type} : Left H := { results := [], args := [] }

/-- 'laws.FnDurationParts': WHATEVER THE INPUT: true; the input reads as it did. -/
def fnDurationPartsSpec : ChangeSpec := { name := "fnDurationParts", fn := fun _ => fun
  | [d] => { results := [.lit (.bool true)], args := [d] }
  | _ => none }
def fnDurationPartsRow : OpenClaim := { program := "ytmapfaclglicnaa", sum := "86180387e92985432dec98ea978eb9d04779d61fdb889fc86b3c5324886e2198", func := "pub-claviger/laws.FnDurationParts", spec := "fnDurationParts", apart := false }
def FnDurationPartsSaid : Prop := fnDurationPartsRow.holds Try.pinned (OpenSpec.ofChange fnDurationPartsSpec)

/-- ITS FALSE NEIGHBOUR: 'it returns false'. Refute it at one input. -/
def fnDurationPartsWrong : ChangeSpec := { name := "fnDurationParts", fn := fun _ => fun
  | [d] => { results := [.lit (.bool false)], args := [d] }
  | _ => none }
def FnDurationPartsWrongFalsely : Prop := fnDurationPartsRow.holds Try.pinned (OpenSpec.ofChange fnDurationPartsWrong)

/-- 'laws.FnAddLongs': WHATEVER THE INPUT: true; the input reads as it did. -/
def fnAddLongsSpec : ChangeSpec := { name := "fnAddLongs", fn := fun _ => fun
  | [d1, d2] => { results := [.lit (.bool true)], args := [d1, d2] }
  | _ => none }
def fnAddLongsRow : OpenClaim := { program := "ytmapfaclglicnaa", sum := "86180387e92985432dec98ea978eb9d04779d61fdb889fc86b3c5324886e2198", func := "pub-claviger/laws.FnAddLongs", spec := "fnAddLongs", apart := false }
def FnAddLongsSaid : Prop := fnAddLongsRow.holds Try.pinned (OpenSpec.ofChange fnAddLongsSpec)

/-- ITS FALSE NEIGHBOUR: 'it returns false'. Refute it at one input. -/
def fnAddLongsWrong : ChangeSpec := { name := "fnAddLongs", fn := fun _ => fun
  | [d1, d2] => { results := [.lit (.bool false)], args := [d1, d2] }
  | _ => none }
def FnAddLongsWrongFalsely : Prop := fnAddLongsRow.holds Try.pinned (OpenSpec.ofChange fnAddLongsWrong)

/-- 'laws.FnDecimalTotal': WHATEVER THE INPUT: true; the input reads as it did. -/
def fnDecimalTotalSpec : ChangeSpec := { name := "fnDecimalTotal", fn := fun _ => fun
  | [d1, d2, d3] => { results := [.lit (.bool true)], args := [d1, d2, d3] }
  | _ => none }
def fnDecimalTotalRow : OpenClaim := { program := "ytmapfaclglicnaa", sum := "86180387e92985432dec98ea978eb9d04779d61fdb889fc86b3c5324886e2198", func := "pub-claviger/laws.FnDecimalTotal", spec := "fnDecimalTotal", apart := false }
def FnDecimalTotalSaid : Prop := fnDecimalTotalRow.holds Try.pinned (OpenSpec.ofChange fnDecimalTotalSpec)

/-- ITS FALSE NEIGHBOUR: 'it returns false'. Refute it at one input. -/
def fnDecimalTotalWrong : ChangeSpec := { name := "fnDecimalTotal", fn := fun _ => fun
  | [d1, d2, d3] => { results := [.lit (.bool false)], args := [d1, d2, d3] }
  | _ => none }
def FnDecimalTotalWrongFalsely : Prop := fnDecimalTotalRow.holds Try.pinned (OpenSpec.ofChange fnDecimalTotalWrong)

/- THE SECOND FORM. 'bulk': how many values and letters a reading holds, each counted each time it is reached (what is shared counts as often as it is met; a slice's spare places count too). A statement '..UptoSaid' is the law's where the arguments, and the package variables that the reading takes, are together of bulk at most 1048576: NARROWER than '..Said'. Prove '..Said' where nothing that the law and all that it calls make is longer than what came in: it says more and counts as full. Else prove '..UptoSaid'. A law counts once. -/
mutual
def uptoBulk {H : Type} : DataW H → Nat
  | .lit (.string bytes) => bytes.length + 1
  | .lit _ => 1
  | .nil => 1
  | .ptr d => uptoBulk d + 1
  | .slice elems spare => uptoBulkAll elems + uptoBulkAll spare + 1
  | .agg parts => uptoBulkAll parts + 1
  | .iface _ d => uptoBulk d + 1
  | .map entries => uptoBulkEntries entries + 1
  | .held _ => 1
def uptoBulkAll {H : Type} : List (DataW H) → Nat
  | [] => 0
  | d :: r => uptoBulk d + uptoBulkAll r
def uptoBulkEntries {H : Type} : List (Lit × DataW H) → Nat
  | [] => 0
  | x :: r => uptoBulkEntry x + uptoBulkEntries r
def uptoBulkEntry {H : Type} : Lit × DataW H → Nat
  | (.string bytes, d) => bytes.length + uptoBulk d + 1
  | (_, d) => uptoBulk d + 1
 end
def uptoSmall : (H : Type) → List (DataW H) → Bool := fun _ ds => decide (uptoBulkAll ds ≤ 1048576)
def OpenSpec.upto (s : _root_.Go.ChangeSpec) : _root_.Go.OpenSpec := { _root_.Go.OpenSpec.ofChange s with cond := some uptoSmall }

/-- 'laws.FnDurationParts', WHERE WHAT IT READS IS OF BULK AT MOST 1048576: true; the input reads as it did. -/
def fnDurationPartsUptoRow : OpenClaim := { program := "ytmapfaclglicnaa", sum := "86180387e92985432dec98ea978eb9d04779d61fdb889fc86b3c5324886e2198", func := "pub-claviger/laws.FnDurationParts", spec := "fnDurationParts", apart := false, narrowed := true }
def FnDurationPartsUptoSaid : Prop := fnDurationPartsUptoRow.holds Try.pinned (OpenSpec.upto fnDurationPartsSpec)

/-- 'laws.FnAddLongs', WHERE WHAT IT READS IS OF BULK AT MOST 1048576: true; the input reads as it did. -/
def fnAddLongsUptoRow : OpenClaim := { program := "ytmapfaclglicnaa", sum := "86180387e92985432dec98ea978eb9d04779d61fdb889fc86b3c5324886e2198", func := "pub-claviger/laws.FnAddLongs", spec := "fnAddLongs", apart := false, narrowed := true }
def FnAddLongsUptoSaid : Prop := fnAddLongsUptoRow.holds Try.pinned (OpenSpec.upto fnAddLongsSpec)

/-- 'laws.FnDecimalTotal', WHERE WHAT IT READS IS OF BULK AT MOST 1048576: true; the input reads as it did. -/
def fnDecimalTotalUptoRow : OpenClaim := { program := "ytmapfaclglicnaa", sum := "86180387e92985432dec98ea978eb9d04779d61fdb889fc86b3c5324886e2198", func := "pub-claviger/laws.FnDecimalTotal", spec := "fnDecimalTotal", apart := false, narrowed := true }
def FnDecimalTotalUptoSaid : Prop := fnDecimalTotalUptoRow.holds Try.pinned (OpenSpec.upto fnDecimalTotalSpec)

end Rows
end Go.Proofs.Ytmapfaclglicnaa
