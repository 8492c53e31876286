/-
  NARROWER THAN 'FOR EVERY INPUT', by the rows' own cells (each row's printed sentence says how): FnRecordLen: loops.
  DERIVED. THE GIVEN ROWS OF THIS SEAT. 2 by the template 'for every input the law returns true; each argument reads behind the call as it read before'; 0 by the template 'total and deterministic' (their statements: YtliinhadngopgaaGreatTotals.lean).
  GIVEN WITH THE SEED: the statements are not yours to turn. If you find one false, say at which input.
  Laid BY PROGRAM, IN A SANDBOX (cutbox-rows.mjs): the forced cells as the released guide's own fill.sh prints them over the translation 828c4782e3064ae5… (all of the seat's roots in one cut). By AI agents, Wed Nov 11 2026. No macro, syntax, notation, axiom, sorry.
-/
import Derived.Test.YtliinhadngopgaaGreatChecked
import GoSem.Claim
import GoSem.ClaimJoined
import GoSem.ClaimMapViews
import Derived.JoinedTies
import Derived.KernelRfl
namespace Go.Proofs.YtliinhadngopgaaGreat
/- THE CELL 'sum', in the pinned program and in every row, IS THE sha256 OF THE DUMP (.gsa) THAT YtliinhadngopgaaGreatProg.lean LOADS. Nothing in Lean hashes anything: it is a label: what it is worth is what the hold of that sum in a sandbox is worth. -/
noncomputable def Tryz.pinned : Pinned := { name := "ytliinhadngopgaagreat", sum := "828c4782e3064ae5ea6f94aae4a68809492356765822f308724597a56ea495e5", checked := Tryz.checked }
namespace Rows
def none {H : Type} : Left H := { results := [], args := [] }

/-- 'laws.FnRecordLen': WHATEVER THE INPUT: true; the input reads as it did. -/
def fnRecordLenSpec : ChangeSpec := { name := "fnRecordLen", fn := fun _ => fun
  | [d] => { results := [.lit (.bool true)], args := [d] }
  | _ => none }
def fnRecordLenRow : OpenClaim := { program := "ytliinhadngopgaagreat", sum := "828c4782e3064ae5ea6f94aae4a68809492356765822f308724597a56ea495e5", func := "pub-claviger/laws.FnRecordLen", spec := "fnRecordLen", inPlace := ["maps.clone"], unfollowed := true, recurses := true, named := ["encoding/binary.LittleEndian"], loops := true, apart := false }
def FnRecordLenSaid : Prop := fnRecordLenRow.holds Tryz.pinned (OpenSpec.ofChange fnRecordLenSpec)

/-- ITS FALSE NEIGHBOUR: 'it returns false'. Refute it at one input. -/
def fnRecordLenWrong : ChangeSpec := { name := "fnRecordLen", fn := fun _ => fun
  | [d] => { results := [.lit (.bool false)], args := [d] }
  | _ => none }
def FnRecordLenWrongFalsely : Prop := fnRecordLenRow.holds Tryz.pinned (OpenSpec.ofChange fnRecordLenWrong)

/-- 'laws.FnLessOrder': WHATEVER THE INPUT: true; the input reads as it did. -/
def fnLessOrderSpec : ChangeSpec := { name := "fnLessOrder", fn := fun _ => fun
  | [d1, d2, d3] => { results := [.lit (.bool true)], args := [d1, d2, d3] }
  | _ => none }
def fnLessOrderRow : OpenClaim := { program := "ytliinhadngopgaagreat", sum := "828c4782e3064ae5ea6f94aae4a68809492356765822f308724597a56ea495e5", func := "pub-claviger/laws.FnLessOrder", spec := "fnLessOrder", inPlace := ["maps.clone"], unfollowed := true, recurses := true, named := ["encoding/binary.LittleEndian"], apart := false }
def FnLessOrderSaid : Prop := fnLessOrderRow.holds Tryz.pinned (OpenSpec.ofChange fnLessOrderSpec)

/-- ITS FALSE NEIGHBOUR: 'it returns false'. Refute it at one input. -/
def fnLessOrderWrong : ChangeSpec := { name := "fnLessOrder", fn := fun _ => fun
  | [d1, d2, d3] => { results := [.lit (.bool false)], args := [d1, d2, d3] }
  | _ => none }
def FnLessOrderWrongFalsely : Prop := fnLessOrderRow.holds Tryz.pinned (OpenSpec.ofChange fnLessOrderWrong)

/- THE SECOND FORM. 'bulk': how many values and letters a reading holds, each counted each time it is reached (what is shared counts as often as it is met; a slice's spare places count too). A statement '..UptoSaid' is the law's where the arguments, and the package variables that the reading takes, are together of bulk at most 1048576: NARROWER than '..Said'. Prove '..Said' where nothing that the law and all that it calls make is longer than what came in: it says more and counts as full. Else prove '..UptoSaid'. A law counts once. -/
mutual
def uptoBulk {H : Type} : DataW H → Nat
  | .lit (.string bytes) => bytes.length + 1
  | .lit _ => 1
  | .nil => 1
  | .ptr d => uptoBulk d + 1
  | .slice elems spare => uptoBulkAll elems + uptoBulkAll spare + 1
  | .agg parts => uptoBulkAll parts + 1
  | .iface _ d => uptoBulk d + 1
  | .map entries => uptoBulkEntries entries + 1
  | .held _ => 1
def uptoBulkAll {H : Type} : List (DataW H) → Nat
  | [] => 0
  | d :: r => uptoBulk d + uptoBulkAll r
def uptoBulkEntries {H : Type} : List (Lit × DataW H) → Nat
  | [] => 0
  | x :: r => uptoBulkEntry x + uptoBulkEntries r
def uptoBulkEntry {H : Type} : Lit × DataW H → Nat
  | (.string bytes, d) => bytes.length + uptoBulk d + 1
  | (_, d) => uptoBulk d + 1
 end
def uptoSmall : (H : Type) → List (DataW H) → Bool := fun _ ds => decide (uptoBulkAll ds ≤ 1048576)
def OpenSpec.upto (s : _root_.Go.ChangeSpec) : _root_.Go.OpenSpec := { _root_.Go.OpenSpec.ofChange s with cond := some uptoSmall }

/-- 'laws.FnRecordLen', WHERE WHAT IT READS IS OF BULK AT MOST 1048576: true; the input reads as it did. -/
def fnRecordLenUptoRow : OpenClaim := { program := "ytliinhadngopgaagreat", sum := "828c4782e3064ae5ea6f94aae4a68809492356765822f308724597a56ea495e5", func := "pub-claviger/laws.FnRecordLen", spec := "fnRecordLen", inPlace := ["maps.clone"], unfollowed := true, recurses := true, named := ["encoding/binary.LittleEndian"], loops := true, apart := false, narrowed := true }
def FnRecordLenUptoSaid : Prop := fnRecordLenUptoRow.holds Tryz.pinned (OpenSpec.upto fnRecordLenSpec)

/-- 'laws.FnLessOrder', WHERE WHAT IT READS IS OF BULK AT MOST 1048576: true; the input reads as it did. -/
def fnLessOrderUptoRow : OpenClaim := { program := "ytliinhadngopgaagreat", sum := "828c4782e3064ae5ea6f94aae4a68809492356765822f308724597a56ea495e5", func := "pub-claviger/laws.FnLessOrder", spec := "fnLessOrder", inPlace := ["maps.clone"], unfollowed := true, recurses := true, named := ["encoding/binary.LittleEndian"], apart := false, narrowed := true }
def FnLessOrderUptoSaid : Prop := fnLessOrderUptoRow.holds Tryz.pinned (OpenSpec.upto fnLessOrderSpec)

end Rows
end Go.Proofs.YtliinhadngopgaaGreat
