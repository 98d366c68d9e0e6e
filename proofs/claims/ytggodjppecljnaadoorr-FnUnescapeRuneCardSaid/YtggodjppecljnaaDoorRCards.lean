/-
  DERIVED. GIVEN WITH THE SEED: THE CARDS: each row of YtggodjppecljnaaDoorRRows.lean that lists a variable, with what it lists TIED to the program's text (the seventh form; the later family's looks); each row that meets fmt, with fmt's text TOLD by the authors' own Lean function (tested against real Go, not proved from fmt's source: count such statements apart). THE CARD IS WHAT COUNTS. Prove the row's statement (the work); the ties are given (YtggodjppecljnaaDoorRTie.lean); close each card by the builder's one call (the guide's Derived/Test/ToyasCard.lean, 'card_holds'). Laid BY PROGRAM, IN A SANDBOX (cutbox-door.mjs). By AI agents, Wed Nov 11 2026. No macro, syntax, notation, axiom, sorry.
-/
import Derived.Test.YtggodjppecljnaaDoorRRows
import GoSem.ClaimSeven
namespace Go.Proofs.YtggodjppecljnaaDoorR
namespace Rows

/-- THE TIED CARD OF 'laws.FnUnescapeRune'. -/
def fnUnescapeRuneCard : Claim7 := { stood := { row := fnUnescapeRuneRow, standIns := [], harness := (true, "14f0603ca6e530f6c229eddf050b68625f926f46c2a76a944297c28784e58153"), looks := false }, kinds := [], alts := [], laidByText := true, laidKinds := [.data, .pinned], laidTests := true, laidLooks := .later }
def FnUnescapeRuneCardSaid : Prop := Claim7.holds Tryd.pinned (.plain (OpenSpec.ofChange fnUnescapeRuneSpec)) fnUnescapeRuneCard

/-- THE SECOND FORM's CARD OF 'laws.FnUnescapeRune'. -/
def fnUnescapeRuneUptoCard : Claim7 := { stood := { row := fnUnescapeRuneUptoRow, standIns := [], harness := (true, "14f0603ca6e530f6c229eddf050b68625f926f46c2a76a944297c28784e58153"), looks := false }, kinds := [], alts := [], laidByText := true, laidKinds := [.data, .pinned], laidTests := true, laidLooks := .later }
def FnUnescapeRuneUptoCardSaid : Prop := Claim7.holds Tryd.pinned (.plain (OpenSpec.upto fnUnescapeRuneSpec)) fnUnescapeRuneUptoCard
end Rows
end Go.Proofs.YtggodjppecljnaaDoorR
