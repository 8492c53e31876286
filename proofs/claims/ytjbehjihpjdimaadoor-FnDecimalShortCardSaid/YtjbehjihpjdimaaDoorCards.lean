/-
  DERIVED. GIVEN WITH THE SEED: THE CARDS: each row of YtjbehjihpjdimaaDoorRows.lean that lists a variable, with what it lists TIED to the program's text (the seventh form; the later family's looks); each row that meets fmt, with fmt's text TOLD by the authors' own Lean function (tested against real Go, not proved from fmt's source: count such statements apart). THE CARD IS WHAT COUNTS. Prove the row's statement (the work); the ties are given (YtjbehjihpjdimaaDoorTie.lean); close each card by the builder's one call (the guide's Derived/Test/ToyasCard.lean, 'card_holds'). Laid BY PROGRAM, IN A SANDBOX (cutbox-door.mjs). By AI agents, Wed Nov 11 2026. No macro, syntax, notation, axiom, sorry.
-/
import Derived.Test.YtjbehjihpjdimaaDoorRows
import GoSem.ClaimSeven
namespace Go.Proofs.YtjbehjihpjdimaaDoor
namespace Rows

/-- THE TIED CARD OF 'laws.FnDecimalShort'. -/
def fnDecimalShortCard : Claim7 := { stood := { row := fnDecimalShortRow, standIns := [], harness := (true, "57dd9ac10a8a7753f9dcb29b8be4c8c97a1aa7331ac117a1192d1583ba7684f5"), looks := false }, kinds := [], alts := [], laidByText := true, laidKinds := [.data, .data, .data], laidTests := true, laidLooks := .later }
def FnDecimalShortCardSaid : Prop := Claim7.holds Tryd.pinned (.plain (OpenSpec.ofChange fnDecimalShortSpec)) fnDecimalShortCard

/-- THE SECOND FORM's CARD OF 'laws.FnDecimalShort'. -/
def fnDecimalShortUptoCard : Claim7 := { stood := { row := fnDecimalShortUptoRow, standIns := [], harness := (true, "57dd9ac10a8a7753f9dcb29b8be4c8c97a1aa7331ac117a1192d1583ba7684f5"), looks := false }, kinds := [], alts := [], laidByText := true, laidKinds := [.data, .data, .data], laidTests := true, laidLooks := .later }
def FnDecimalShortUptoCardSaid : Prop := Claim7.holds Tryd.pinned (.plain (OpenSpec.upto fnDecimalShortSpec)) fnDecimalShortUptoCard
end Rows
end Go.Proofs.YtjbehjihpjdimaaDoor
