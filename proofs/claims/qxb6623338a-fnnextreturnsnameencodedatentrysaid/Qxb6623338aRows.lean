/-
  No cell of these rows narrows 'for every input' (looked for: loops, veiled, ifaces, maps, wideKeys, modest, calm, conditions, laid).
  DERIVED. THE GIVEN ROWS OF THIS SEAT. 1 by the template 'for every input the law returns true; each argument reads behind the call as it read before'; 0 by the template 'total and deterministic' (their statements: Qxb6623338aTotals.lean).
  GIVEN WITH THE SEED: the statements are not yours to turn. If you find one false, say at which input.
  Laid BY PROGRAM, IN A SANDBOX (cutbox-rows.mjs): the forced cells as the released guide's own fill.sh prints them over the translation 873af90dbd30c94e… (all of the seat's roots in one cut). By AI agents, Wed Nov 11 2026. No macro, syntax, notation, axiom, sorry.
-/
import Derived.Test.Qxb6623338aChecked
import GoSem.Claim
import GoSem.ClaimJoined
import GoSem.ClaimMapViews
import Derived.JoinedTies
import Derived.KernelRfl
namespace Go.Proofs.Qxb6623338a
/- THE CELL 'sum', in the pinned program and in every row, IS THE sha256 OF THE DUMP (.gsa) THAT Qxb6623338aProg.lean LOADS. Nothing in Lean hashes anything: it is a label: what it is worth is what the hold of that sum in a sandbox is worth. -/
noncomputable def Try.pinned : Pinned := { name := "qxb6623338a", sum := "873af90dbd30c94e31ef1387a0f206322ac0298d25b55236e36cd739ba0388d8", checked := Try.checked }
namespace Rows
def none {H : Type} : Left H := { results := [], args := [] }

/-- 'zzlaws_internal_jcs_b1.FnNextReturnsNameEncodedAtEntry': WHATEVER THE INPUT: true; the input reads as it did. -/
def fnNextReturnsNameEncodedAtEntrySpec : ChangeSpec := { name := "fnNextReturnsNameEncodedAtEntry", fn := fun _ => fun
  | [d1, d2, d3, d4, d5, d6] => { results := [.lit (.bool true)], args := [d1, d2, d3, d4, d5, d6] }
  | _ => none }
def fnNextReturnsNameEncodedAtEntryRow : OpenClaim := { program := "qxb6623338a", sum := "873af90dbd30c94e31ef1387a0f206322ac0298d25b55236e36cd739ba0388d8", func := "example.com/attestary/attestary/zzlaws_internal_jcs_b1.FnNextReturnsNameEncodedAtEntry", spec := "fnNextReturnsNameEncodedAtEntry", apart := false }
def FnNextReturnsNameEncodedAtEntrySaid : Prop := fnNextReturnsNameEncodedAtEntryRow.holds Try.pinned (OpenSpec.ofChange fnNextReturnsNameEncodedAtEntrySpec)

/-- ITS FALSE NEIGHBOUR: 'it returns false'. Refute it at one input. -/
def fnNextReturnsNameEncodedAtEntryWrong : ChangeSpec := { name := "fnNextReturnsNameEncodedAtEntry", fn := fun _ => fun
  | [d1, d2, d3, d4, d5, d6] => { results := [.lit (.bool false)], args := [d1, d2, d3, d4, d5, d6] }
  | _ => none }
def FnNextReturnsNameEncodedAtEntryWrongFalsely : Prop := fnNextReturnsNameEncodedAtEntryRow.holds Try.pinned (OpenSpec.ofChange fnNextReturnsNameEncodedAtEntryWrong)

end Rows
end Go.Proofs.Qxb6623338a
