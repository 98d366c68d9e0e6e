/-
  No cell of these rows narrows 'for every input' (looked for: loops, veiled, ifaces, maps, wideKeys, modest, calm, conditions, laid).
  DERIVED. THE GIVEN ROWS OF THIS SEAT. 2 by the template 'for every input the law returns true; each argument reads behind the call as it read before'; 0 by the template 'total and deterministic' (their statements: YtkgkejihdfgpkaaTotals.lean).
  GIVEN WITH THE SEED: the statements are not yours to turn. If you find one false, say at which input.
  Laid BY PROGRAM, IN A SANDBOX (cutbox-rows.mjs): the forced cells as the released guide's own fill.sh prints them over the translation 6061bbf5b7b34978… (all of the seat's roots in one cut). By AI agents, Wed Nov 11 2026. No macro, syntax, notation, axiom, sorry.
-/
import Derived.Test.YtkgkejihdfgpkaaChecked
import GoSem.Claim
import GoSem.ClaimJoined
import GoSem.ClaimMapViews
import Derived.JoinedTies
import Derived.KernelRfl
namespace Go.Proofs.Ytkgkejihdfgpkaa
/- THE CELL 'sum', in the pinned program and in every row, IS THE sha256 OF THE DUMP (.gsa) THAT YtkgkejihdfgpkaaProg.lean LOADS. Nothing in Lean hashes anything: it is a label: what it is worth is what the hold of that sum in a sandbox is worth. -/
noncomputable def Try.pinned : Pinned := { name := "ytkgkejihdfgpkaa", sum := "6061bbf5b7b34978636ec470ce118c36928f4b92058444a35bf040f9f2d6bd4f", checked := Try.checked }
namespace Rows
def none {H : Type} : Left H := { results := [], args := [] }

/-- 'laws.FnMatchFilled': WHATEVER THE INPUT: true; the input reads as it did. -/
def fnMatchFilledSpec : ChangeSpec := { name := "fnMatchFilled", fn := fun _ => fun
  | [d1, d2] => { results := [.lit (.bool true)], args := [d1, d2] }
  | _ => none }
def fnMatchFilledRow : OpenClaim := { program := "ytkgkejihdfgpkaa", sum := "6061bbf5b7b34978636ec470ce118c36928f4b92058444a35bf040f9f2d6bd4f", func := "pub-claviger/laws.FnMatchFilled", spec := "fnMatchFilled", apart := false }
def FnMatchFilledSaid : Prop := fnMatchFilledRow.holds Try.pinned (OpenSpec.ofChange fnMatchFilledSpec)

/-- ITS FALSE NEIGHBOUR: 'it returns false'. Refute it at one input. -/
def fnMatchFilledWrong : ChangeSpec := { name := "fnMatchFilled", fn := fun _ => fun
  | [d1, d2] => { results := [.lit (.bool false)], args := [d1, d2] }
  | _ => none }
def FnMatchFilledWrongFalsely : Prop := fnMatchFilledRow.holds Try.pinned (OpenSpec.ofChange fnMatchFilledWrong)

/-- 'laws.FnMatchReversed': WHATEVER THE INPUT: true; the input reads as it did. -/
def fnMatchReversedSpec : ChangeSpec := { name := "fnMatchReversed", fn := fun _ => fun
  | [d1, d2] => { results := [.lit (.bool true)], args := [d1, d2] }
  | _ => none }
def fnMatchReversedRow : OpenClaim := { program := "ytkgkejihdfgpkaa", sum := "6061bbf5b7b34978636ec470ce118c36928f4b92058444a35bf040f9f2d6bd4f", func := "pub-claviger/laws.FnMatchReversed", spec := "fnMatchReversed", apart := false }
def FnMatchReversedSaid : Prop := fnMatchReversedRow.holds Try.pinned (OpenSpec.ofChange fnMatchReversedSpec)

/-- ITS FALSE NEIGHBOUR: 'it returns false'. Refute it at one input. -/
def fnMatchReversedWrong : ChangeSpec := { name := "fnMatchReversed", fn := fun _ => fun
  | [d1, d2] => { results := [.lit (.bool false)], args := [d1, d2] }
  | _ => none }
def FnMatchReversedWrongFalsely : Prop := fnMatchReversedRow.holds Try.pinned (OpenSpec.ofChange fnMatchReversedWrong)

/- THE SECOND FORM. 'bulk': how many values and letters a reading holds, each counted each time it is reached (what is shared counts as often as it is met; a slice's spare places count too). A statement '..UptoSaid' is the law's where the arguments, and the package variables that the reading takes, are together of bulk at most 1048576: NARROWER than '..Said'. Prove '..Said' where nothing that the law and all that it calls make is longer than what came in: it says more and counts as full. Else prove '..UptoSaid'. A law counts once. -/
mutual
def uptoBulk {H : Type} : DataW H → Nat
  | .lit (.string bytes) => bytes.length + 1
  | .lit _ => 1
  | .nil => 1
  | .ptr d => uptoBulk d + 1
  | .slice elems spare => uptoBulkAll elems + uptoBulkAll spare + 1
  | .agg parts => uptoBulkAll parts + 1
  | .iface _ d => uptoBulk d + 1
  | .map entries => uptoBulkEntries entries + 1
  | .held _ => 1
def uptoBulkAll {H : Type} : List (DataW H) → Nat
  | [] => 0
  | d :: r => uptoBulk d + uptoBulkAll r
def uptoBulkEntries {H : Type} : List (Lit × DataW H) → Nat
  | [] => 0
  | x :: r => uptoBulkEntry x + uptoBulkEntries r
def uptoBulkEntry {H : Type} : Lit × DataW H → Nat
  | (.string bytes, d) => bytes.length + uptoBulk d + 1
  | (_, d) => uptoBulk d + 1
 end
def uptoSmall : (H : Type) → List (DataW H) → Bool := fun _ ds => decide (uptoBulkAll ds ≤ 1048576)
def OpenSpec.upto (s : _root_.Go.ChangeSpec) : _root_.Go.OpenSpec := { _root_.Go.OpenSpec.ofChange s with cond := some uptoSmall }

/-- 'laws.FnMatchFilled', WHERE WHAT IT READS IS OF BULK AT MOST 1048576: true; the input reads as it did. -/
def fnMatchFilledUptoRow : OpenClaim := { program := "ytkgkejihdfgpkaa", sum := "6061bbf5b7b34978636ec470ce118c36928f4b92058444a35bf040f9f2d6bd4f", func := "pub-claviger/laws.FnMatchFilled", spec := "fnMatchFilled", apart := false, narrowed := true }
def FnMatchFilledUptoSaid : Prop := fnMatchFilledUptoRow.holds Try.pinned (OpenSpec.upto fnMatchFilledSpec)

/-- 'laws.FnMatchReversed', WHERE WHAT IT READS IS OF BULK AT MOST 1048576: true; the input reads as it did. -/
def fnMatchReversedUptoRow : OpenClaim := { program := "ytkgkejihdfgpkaa", sum := "6061bbf5b7b34978636ec470ce118c36928f4b92058444a35bf040f9f2d6bd4f", func := "pub-claviger/laws.FnMatchReversed", spec := "fnMatchReversed", apart := false, narrowed := true }
def FnMatchReversedUptoSaid : Prop := fnMatchReversedUptoRow.holds Try.pinned (OpenSpec.upto fnMatchReversedSpec)

end Rows
end Go.Proofs.Ytkgkejihdfgpkaa
