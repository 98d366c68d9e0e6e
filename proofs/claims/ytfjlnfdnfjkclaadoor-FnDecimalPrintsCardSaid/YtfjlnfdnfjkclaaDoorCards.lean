/-
  DERIVED. GIVEN WITH THE SEED: THE CARDS: each row of YtfjlnfdnfjkclaaDoorRows.lean that lists a variable, with what it lists TIED to the program's text (the seventh form; the later family's looks); each row that meets fmt, with fmt's text TOLD by the authors' own Lean function (tested against real Go, not proved from fmt's source: count such statements apart). THE CARD IS WHAT COUNTS. Prove the row's statement (the work); the ties are given (YtfjlnfdnfjkclaaDoorTie.lean); close each card by the builder's one call (the guide's Derived/Test/ToyasCard.lean, 'card_holds'). Laid BY PROGRAM, IN A SANDBOX (cutbox-door.mjs). By AI agents, Wed Nov 11 2026. No macro, syntax, notation, axiom, sorry.
-/
import Derived.Test.YtfjlnfdnfjkclaaDoorRows
import GoSem.ClaimSeven
namespace Go.Proofs.YtfjlnfdnfjkclaaDoor
namespace Rows

/-- THE TIED CARD OF 'laws.FnDecimalPrints'. -/
def fnDecimalPrintsCard : Claim7 := { stood := { row := fnDecimalPrintsRow, standIns := [], harness := (true, "dbb0cd5b2eaf83167962a9b3ff3a11aa06f14761dab23b618b3382a1d3e0f0b4"), looks := true }, kinds := [], alts := [], laidByText := true, laidKinds := [.data, .data, .data, .data, .data, .data, .sentinel, .sentinel, .sentinel], laidTests := true, laidLooks := .later }
def FnDecimalPrintsCardSaid : Prop := Claim7.holds Tryd.pinned (.plain (OpenSpec.ofChange fnDecimalPrintsSpec)) fnDecimalPrintsCard

/-- THE SECOND FORM's CARD OF 'laws.FnDecimalPrints'. -/
def fnDecimalPrintsUptoCard : Claim7 := { stood := { row := fnDecimalPrintsUptoRow, standIns := [], harness := (true, "dbb0cd5b2eaf83167962a9b3ff3a11aa06f14761dab23b618b3382a1d3e0f0b4"), looks := true }, kinds := [], alts := [], laidByText := true, laidKinds := [.data, .data, .data, .data, .data, .data, .sentinel, .sentinel, .sentinel], laidTests := true, laidLooks := .later }
def FnDecimalPrintsUptoCardSaid : Prop := Claim7.holds Tryd.pinned (.plain (OpenSpec.upto fnDecimalPrintsSpec)) fnDecimalPrintsUptoCard
end Rows
end Go.Proofs.YtfjlnfdnfjkclaaDoor
