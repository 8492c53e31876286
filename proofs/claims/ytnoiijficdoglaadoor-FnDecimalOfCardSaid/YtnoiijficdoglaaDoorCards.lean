/-
  DERIVED. GIVEN WITH THE SEED: THE CARDS: each row of YtnoiijficdoglaaDoorRows.lean that lists a variable, with what it lists TIED to the program's text (the seventh form; the later family's looks); each row that meets fmt, with fmt's text TOLD by the authors' own Lean function (tested against real Go, not proved from fmt's source: count such statements apart). THE CARD IS WHAT COUNTS. Prove the row's statement (the work); the ties are given (YtnoiijficdoglaaDoorTie.lean); close each card by the builder's one call (the guide's Derived/Test/ToyasCard.lean, 'card_holds'). Laid BY PROGRAM, IN A SANDBOX (cutbox-door.mjs). By AI agents, Wed Nov 11 2026. No macro, syntax, notation, axiom, sorry.
-/
import Derived.Test.YtnoiijficdoglaaDoorRows
import GoSem.ClaimSeven
namespace Go.Proofs.YtnoiijficdoglaaDoor
namespace Rows

/-- THE TIED CARD OF 'laws.FnDecimalOf'. -/
def fnDecimalOfCard : Claim7 := { stood := { row := fnDecimalOfRow, standIns := [], harness := (true, "41c02945f335e7fe42dbbfe69757a727b7575e23820133be5827f6ddbff10f0d"), looks := false }, kinds := [], alts := [], laidByText := true, laidKinds := [.data, .data, .data, .sentinel], laidTests := true, laidLooks := .later }
def FnDecimalOfCardSaid : Prop := Claim7.holds Tryd.pinned (.plain (OpenSpec.ofChange fnDecimalOfSpec)) fnDecimalOfCard

/-- THE TIED CARD OF 'laws.FnDecimalReference'. -/
def fnDecimalReferenceCard : Claim7 := { stood := { row := fnDecimalReferenceRow, standIns := [], harness := (true, "41c02945f335e7fe42dbbfe69757a727b7575e23820133be5827f6ddbff10f0d"), looks := false }, kinds := [], alts := [], laidByText := true, laidKinds := [.data, .data, .data, .sentinel], laidTests := true, laidLooks := .later }
def FnDecimalReferenceCardSaid : Prop := Claim7.holds Tryd.pinned (.plain (OpenSpec.ofChange fnDecimalReferenceSpec)) fnDecimalReferenceCard

/-- THE SECOND FORM's CARD OF 'laws.FnDecimalOf'. -/
def fnDecimalOfUptoCard : Claim7 := { stood := { row := fnDecimalOfUptoRow, standIns := [], harness := (true, "41c02945f335e7fe42dbbfe69757a727b7575e23820133be5827f6ddbff10f0d"), looks := false }, kinds := [], alts := [], laidByText := true, laidKinds := [.data, .data, .data, .sentinel], laidTests := true, laidLooks := .later }
def FnDecimalOfUptoCardSaid : Prop := Claim7.holds Tryd.pinned (.plain (OpenSpec.upto fnDecimalOfSpec)) fnDecimalOfUptoCard

/-- THE SECOND FORM's CARD OF 'laws.FnDecimalReference'. -/
def fnDecimalReferenceUptoCard : Claim7 := { stood := { row := fnDecimalReferenceUptoRow, standIns := [], harness := (true, "41c02945f335e7fe42dbbfe69757a727b7575e23820133be5827f6ddbff10f0d"), looks := false }, kinds := [], alts := [], laidByText := true, laidKinds := [.data, .data, .data, .sentinel], laidTests := true, laidLooks := .later }
def FnDecimalReferenceUptoCardSaid : Prop := Claim7.holds Tryd.pinned (.plain (OpenSpec.upto fnDecimalReferenceSpec)) fnDecimalReferenceUptoCard
end Rows
end Go.Proofs.YtnoiijficdoglaaDoor
