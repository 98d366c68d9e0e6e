/-
  DERIVED. GIVEN WITH THE SEED: THE CARDS: each row of YtbpbbiiohpbkhaaDoorRows.lean that lists a variable, with what it lists TIED to the program's text (the seventh form; the later family's looks); each row that meets fmt, with fmt's text TOLD by the authors' own Lean function (tested against real Go, not proved from fmt's source: count such statements apart). THE CARD IS WHAT COUNTS. Prove the row's statement (the work); the ties are given (YtbpbbiiohpbkhaaDoorTie.lean); close each card by the builder's one call (the guide's Derived/Test/ToyasCard.lean, 'card_holds'). Laid BY PROGRAM, IN A SANDBOX (cutbox-door.mjs). By AI agents, Wed Nov 11 2026. No macro, syntax, notation, axiom, sorry.
-/
import Derived.Test.YtbpbbiiohpbkhaaDoorRows
import GoSem.ClaimSeven
namespace Go.Proofs.YtbpbbiiohpbkhaaDoor
namespace Rows

/-- THE TIED CARD OF 'laws.FnDurationUnits'. -/
def fnDurationUnitsCard : Claim7 := { stood := { row := fnDurationUnitsRow, standIns := [], harness := (true, "c184c4a5b52b5dc4bc295769a1befbf36a7e15b28a7c32dbdffdc2c0dd676abf"), looks := false }, kinds := [], alts := [], laidByText := true, laidKinds := [.sentinel], laidTests := true, laidLooks := .later }
def FnDurationUnitsCardSaid : Prop := Claim7.holds Tryd.pinned (.plain (OpenSpec.ofChange fnDurationUnitsSpec)) fnDurationUnitsCard

/-- THE TIED CARD OF 'laws.FnDurationPrints'. -/
def fnDurationPrintsCard : Claim7 := { stood := { row := fnDurationPrintsRow, standIns := [], harness := (true, "c184c4a5b52b5dc4bc295769a1befbf36a7e15b28a7c32dbdffdc2c0dd676abf"), looks := false }, kinds := [], alts := [], laidByText := true, laidKinds := [.data, .data, .data, .sentinel, .sentinel], laidTests := true, laidLooks := .later }
def FnDurationPrintsCardSaid : Prop := Claim7.holds Tryd.pinned (.plain (OpenSpec.ofChange fnDurationPrintsSpec)) fnDurationPrintsCard

/-- THE SECOND FORM's CARD OF 'laws.FnDurationUnits'. -/
def fnDurationUnitsUptoCard : Claim7 := { stood := { row := fnDurationUnitsUptoRow, standIns := [], harness := (true, "c184c4a5b52b5dc4bc295769a1befbf36a7e15b28a7c32dbdffdc2c0dd676abf"), looks := false }, kinds := [], alts := [], laidByText := true, laidKinds := [.sentinel], laidTests := true, laidLooks := .later }
def FnDurationUnitsUptoCardSaid : Prop := Claim7.holds Tryd.pinned (.plain (OpenSpec.upto fnDurationUnitsSpec)) fnDurationUnitsUptoCard

/-- THE SECOND FORM's CARD OF 'laws.FnDurationPrints'. -/
def fnDurationPrintsUptoCard : Claim7 := { stood := { row := fnDurationPrintsUptoRow, standIns := [], harness := (true, "c184c4a5b52b5dc4bc295769a1befbf36a7e15b28a7c32dbdffdc2c0dd676abf"), looks := false }, kinds := [], alts := [], laidByText := true, laidKinds := [.data, .data, .data, .sentinel, .sentinel], laidTests := true, laidLooks := .later }
def FnDurationPrintsUptoCardSaid : Prop := Claim7.holds Tryd.pinned (.plain (OpenSpec.upto fnDurationPrintsSpec)) fnDurationPrintsUptoCard
end Rows
end Go.Proofs.YtbpbbiiohpbkhaaDoor
