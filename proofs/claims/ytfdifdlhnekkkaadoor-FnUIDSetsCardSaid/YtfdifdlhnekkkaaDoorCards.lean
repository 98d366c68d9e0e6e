/-
  DERIVED. GIVEN WITH THE SEED: THE CARDS: each row of YtfdifdlhnekkkaaDoorRows.lean that lists a variable, with what it lists TIED to the program's text (the seventh form; the later family's looks); each row that meets fmt, with fmt's text TOLD by the authors' own Lean function (tested against real Go, not proved from fmt's source: count such statements apart). THE CARD IS WHAT COUNTS. Prove the row's statement (the work); the ties are given (YtfdifdlhnekkkaaDoorTie.lean); close each card by the builder's one call (the guide's Derived/Test/ToyasCard.lean, 'card_holds'). Laid BY PROGRAM, IN A SANDBOX (cutbox-door.mjs). By AI agents, Wed Nov 11 2026. No macro, syntax, notation, axiom, sorry.
-/
import Derived.Test.YtfdifdlhnekkkaaDoorRows
import GoSem.ClaimSeven
namespace Go.Proofs.YtfdifdlhnekkkaaDoor
namespace Rows

/-- THE TIED CARD OF 'laws.FnUIDSets'. -/
def fnUIDSetsCard : Claim7 := { stood := { row := fnUIDSetsRow, standIns := [], harness := (true, "ee2fd364a4005fcd5587bb1ad2ef2ee9fca2ba999baf63d67ea47f9123553143"), looks := false }, kinds := [], alts := [], laidByText := true, laidKinds := [.data], laidTests := true, laidLooks := .later }
def FnUIDSetsCardSaid : Prop := Claim7.holds Tryd.pinned (.plain (OpenSpec.ofChange fnUIDSetsSpec)) fnUIDSetsCard

/-- THE SECOND FORM's CARD OF 'laws.FnUIDSets'. -/
def fnUIDSetsUptoCard : Claim7 := { stood := { row := fnUIDSetsUptoRow, standIns := [], harness := (true, "ee2fd364a4005fcd5587bb1ad2ef2ee9fca2ba999baf63d67ea47f9123553143"), looks := false }, kinds := [], alts := [], laidByText := true, laidKinds := [.data], laidTests := true, laidLooks := .later }
def FnUIDSetsUptoCardSaid : Prop := Claim7.holds Tryd.pinned (.plain (OpenSpec.upto fnUIDSetsSpec)) fnUIDSetsUptoCard
end Rows
end Go.Proofs.YtfdifdlhnekkkaaDoor
