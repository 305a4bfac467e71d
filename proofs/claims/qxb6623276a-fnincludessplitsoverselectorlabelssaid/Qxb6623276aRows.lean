/-
  No cell of these rows narrows 'for every input' (looked for: loops, veiled, ifaces, maps, wideKeys, modest, calm, conditions, laid).
  DERIVED. THE GIVEN ROWS OF THIS SEAT. 1 by the template 'for every input the law returns true; each argument reads behind the call as it read before'; 0 by the template 'total and deterministic' (their statements: Qxb6623276aTotals.lean).
  GIVEN WITH THE SEED: the statements are not yours to turn. If you find one false, say at which input.
  Laid BY PROGRAM, IN A SANDBOX (cutbox-rows.mjs): the forced cells as the released guide's own fill.sh prints them over the translation 05e9282c651a579e… (all of the seat's roots in one cut). By AI agents, Wed Nov 11 2026. No macro, syntax, notation, axiom, sorry.
-/
import Derived.Test.Qxb6623276aChecked
import GoSem.Claim
import GoSem.ClaimJoined
import GoSem.ClaimMapViews
import Derived.JoinedTies
import Derived.KernelRfl
namespace Go.Proofs.Qxb6623276a
/- THE CELL 'sum', in the pinned program and in every row, IS THE sha256 OF THE DUMP (.gsa) THAT Qxb6623276aProg.lean LOADS. Nothing in Lean hashes anything: it is a label: what it is worth is what the hold of that sum in a sandbox is worth. -/
noncomputable def Try.pinned : Pinned := { name := "qxb6623276a", sum := "05e9282c651a579ed23a0941f21a3b93d6f83f7821a2e8dc1b1f94530aa6fef9", checked := Try.checked }
namespace Rows
def none {H : Type} : Left H := { results := [], args := [] }

/-- 'zzlaws_internal_metrictext_b1.FnIncludesSplitsOverSelectorLabels': WHATEVER THE INPUT: true; the input reads as it did. -/
def fnIncludesSplitsOverSelectorLabelsSpec : ChangeSpec := { name := "fnIncludesSplitsOverSelectorLabels", fn := fun _ => fun
  | [d1, d2, d3, d4, d5, d6, d7] => { results := [.lit (.bool true)], args := [d1, d2, d3, d4, d5, d6, d7] }
  | _ => none }
def fnIncludesSplitsOverSelectorLabelsRow : OpenClaim := { program := "qxb6623276a", sum := "05e9282c651a579ed23a0941f21a3b93d6f83f7821a2e8dc1b1f94530aa6fef9", func := "example.com/holdfast/holdfast/zzlaws_internal_metrictext_b1.FnIncludesSplitsOverSelectorLabels", spec := "fnIncludesSplitsOverSelectorLabels", apart := false }
def FnIncludesSplitsOverSelectorLabelsSaid : Prop := fnIncludesSplitsOverSelectorLabelsRow.holds Try.pinned (OpenSpec.ofChange fnIncludesSplitsOverSelectorLabelsSpec)

/-- ITS FALSE NEIGHBOUR: 'it returns false'. Refute it at one input. -/
def fnIncludesSplitsOverSelectorLabelsWrong : ChangeSpec := { name := "fnIncludesSplitsOverSelectorLabels", fn := fun _ => fun
  | [d1, d2, d3, d4, d5, d6, d7] => { results := [.lit (.bool false)], args := [d1, d2, d3, d4, d5, d6, d7] }
  | _ => none }
def FnIncludesSplitsOverSelectorLabelsWrongFalsely : Prop := fnIncludesSplitsOverSelectorLabelsRow.holds Try.pinned (OpenSpec.ofChange fnIncludesSplitsOverSelectorLabelsWrong)

end Rows
end Go.Proofs.Qxb6623276a
