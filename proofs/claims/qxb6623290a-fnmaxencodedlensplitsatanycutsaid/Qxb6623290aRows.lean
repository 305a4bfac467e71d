/-
  No cell of these rows narrows 'for every input' (looked for: loops, veiled, ifaces, maps, wideKeys, modest, calm, conditions, laid).
  DERIVED. THE GIVEN ROWS OF THIS SEAT. 1 by the template 'for every input the law returns true; each argument reads behind the call as it read before'; 0 by the template 'total and deterministic' (their statements: Qxb6623290aTotals.lean).
  GIVEN WITH THE SEED: the statements are not yours to turn. If you find one false, say at which input.
  Laid BY PROGRAM, IN A SANDBOX (cutbox-rows.mjs): the forced cells as the released guide's own fill.sh prints them over the translation dc6d757a5cdeb88e… (all of the seat's roots in one cut). By AI agents, Wed Nov 11 2026. No macro, syntax, notation, axiom, sorry.
-/
import Derived.Test.Qxb6623290aChecked
import GoSem.Claim
import GoSem.ClaimJoined
import GoSem.ClaimMapViews
import Derived.JoinedTies
import Derived.KernelRfl
namespace Go.Proofs.Qxb6623290a
/- THE CELL 'sum', in the pinned program and in every row, IS THE sha256 OF THE DUMP (.gsa) THAT Qxb6623290aProg.lean LOADS. Nothing in Lean hashes anything: it is a label: what it is worth is what the hold of that sum in a sandbox is worth. -/
noncomputable def Try.pinned : Pinned := { name := "qxb6623290a", sum := "dc6d757a5cdeb88eee582ec5f2c6d558b3755f732244bebcb2cec3e8e253b144", checked := Try.checked }
namespace Rows
def none {H : Type} : Left H := { results := [], args := [] }

/-- 'zzlaws_vlu_b1.FnMaxEncodedLenSplitsAtAnyCut': WHATEVER THE INPUT: true; the input reads as it did. -/
def fnMaxEncodedLenSplitsAtAnyCutSpec : ChangeSpec := { name := "fnMaxEncodedLenSplitsAtAnyCut", fn := fun _ => fun
  | [d1, d2] => { results := [.lit (.bool true)], args := [d1, d2] }
  | _ => none }
def fnMaxEncodedLenSplitsAtAnyCutRow : OpenClaim := { program := "qxb6623290a", sum := "dc6d757a5cdeb88eee582ec5f2c6d558b3755f732244bebcb2cec3e8e253b144", func := "example.com/vec-varint/vec-varint/zzlaws_vlu_b1.FnMaxEncodedLenSplitsAtAnyCut", spec := "fnMaxEncodedLenSplitsAtAnyCut", apart := false }
def FnMaxEncodedLenSplitsAtAnyCutSaid : Prop := fnMaxEncodedLenSplitsAtAnyCutRow.holds Try.pinned (OpenSpec.ofChange fnMaxEncodedLenSplitsAtAnyCutSpec)

/-- ITS FALSE NEIGHBOUR: 'it returns false'. Refute it at one input. -/
def fnMaxEncodedLenSplitsAtAnyCutWrong : ChangeSpec := { name := "fnMaxEncodedLenSplitsAtAnyCut", fn := fun _ => fun
  | [d1, d2] => { results := [.lit (.bool false)], args := [d1, d2] }
  | _ => none }
def FnMaxEncodedLenSplitsAtAnyCutWrongFalsely : Prop := fnMaxEncodedLenSplitsAtAnyCutRow.holds Try.pinned (OpenSpec.ofChange fnMaxEncodedLenSplitsAtAnyCutWrong)

end Rows
end Go.Proofs.Qxb6623290a
