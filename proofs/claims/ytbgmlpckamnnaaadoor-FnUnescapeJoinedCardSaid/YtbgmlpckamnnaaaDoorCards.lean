/-
  DERIVED. GIVEN WITH THE SEED: THE CARDS: each row of YtbgmlpckamnnaaaDoorRows.lean that lists a variable, with what it lists TIED to the program's text (the seventh form; the later family's looks); each row that meets fmt, with fmt's text TOLD by the authors' own Lean function (tested against real Go, not proved from fmt's source: count such statements apart). THE CARD IS WHAT COUNTS. Prove the row's statement (the work); the ties are given (YtbgmlpckamnnaaaDoorTie.lean); close each card by the builder's one call (the guide's Derived/Test/ToyasCard.lean, 'card_holds'). Laid BY PROGRAM, IN A SANDBOX (cutbox-door.mjs). By AI agents, Wed Nov 11 2026. No macro, syntax, notation, axiom, sorry.
-/
import Derived.Test.YtbgmlpckamnnaaaDoorRows
import GoSem.ClaimSeven
namespace Go.Proofs.YtbgmlpckamnnaaaDoor
namespace Rows

/-- THE TIED CARD OF 'laws.FnUnescapeJoined'. -/
def fnUnescapeJoinedCard : Claim7 := { stood := { row := fnUnescapeJoinedRow, standIns := [], harness := (true, "6e8b10d0c7204e5aa9e88a8c21827e18fcd0e1452bd83370579a82acc5f799e5"), looks := false }, kinds := [], alts := [], laidByText := true, laidKinds := [.data, .pinned], laidTests := true, laidLooks := .later }
def FnUnescapeJoinedCardSaid : Prop := Claim7.holds Tryd.pinned (.plain (OpenSpec.ofChange fnUnescapeJoinedSpec)) fnUnescapeJoinedCard

/-- THE SECOND FORM's CARD OF 'laws.FnUnescapeJoined'. -/
def fnUnescapeJoinedUptoCard : Claim7 := { stood := { row := fnUnescapeJoinedUptoRow, standIns := [], harness := (true, "6e8b10d0c7204e5aa9e88a8c21827e18fcd0e1452bd83370579a82acc5f799e5"), looks := false }, kinds := [], alts := [], laidByText := true, laidKinds := [.data, .pinned], laidTests := true, laidLooks := .later }
def FnUnescapeJoinedUptoCardSaid : Prop := Claim7.holds Tryd.pinned (.plain (OpenSpec.upto fnUnescapeJoinedSpec)) fnUnescapeJoinedUptoCard
end Rows
end Go.Proofs.YtbgmlpckamnnaaaDoor
