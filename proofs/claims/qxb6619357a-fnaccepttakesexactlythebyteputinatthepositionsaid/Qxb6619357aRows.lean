/-
  No cell of these rows narrows 'for every input' (looked for: loops, veiled, ifaces, maps, wideKeys, modest, calm, conditions, laid).
  DERIVED. THE GIVEN ROWS OF THIS SEAT. 5 by the template 'for every input the law returns true; each argument reads behind the call as it read before'; 0 by the template 'total and deterministic' (their statements: Qxb6619357aTotals.lean).
  GIVEN WITH THE SEED: the statements are not yours to turn. If you find one false, say at which input.
  Laid BY PROGRAM, IN A SANDBOX (cutbox-rows.mjs): the forced cells as the released guide's own fill.sh prints them over the translation bdb50ae58adf868f… (all of the seat's roots in one cut). By AI agents, Wed Nov 11 2026. No macro, syntax, notation, axiom, sorry.
-/
import Derived.Test.Qxb6619357aChecked
import GoSem.Claim
import GoSem.ClaimJoined
import GoSem.ClaimMapViews
import Derived.JoinedTies
import Derived.KernelRfl
namespace Go.Proofs.Qxb6619357a
/- THE CELL 'sum', in the pinned program and in every row, IS THE sha256 OF THE DUMP (.gsa) THAT Qxb6619357aProg.lean LOADS. Nothing in Lean hashes anything: it is a label: what it is worth is what the hold of that sum in a sandbox is worth. -/
noncomputable def Try.pinned : Pinned := { name := "qxb6619357a", sum := "bdb50ae58adf868fb9251d74adf3cc7ca723db04cf18129cabbe252941aecef7", checked := Try.checked }
namespace Rows
def none {H : Type} : Left H := { results := [], args := [] }

/-- 'zzlaws_internal_syntax_b1.FnSkipSpaceGrowsByOneWithEachBlankPutInAtThePosition': WHATEVER THE INPUT: true; the input reads as it did. -/
def fnSkipSpaceGrowsByOneWithEachBlankPutInAtThePositionSpec : ChangeSpec := { name := "fnSkipSpaceGrowsByOneWithEachBlankPutInAtThePosition", fn := fun _ => fun
  | [d1, d2, d3] => { results := [.lit (.bool true)], args := [d1, d2, d3] }
  | _ => none }
def fnSkipSpaceGrowsByOneWithEachBlankPutInAtThePositionRow : OpenClaim := { program := "qxb6619357a", sum := "bdb50ae58adf868fb9251d74adf3cc7ca723db04cf18129cabbe252941aecef7", func := "example.com/proofwire/proofwire/zzlaws_internal_syntax_b1.FnSkipSpaceGrowsByOneWithEachBlankPutInAtThePosition", spec := "fnSkipSpaceGrowsByOneWithEachBlankPutInAtThePosition", apart := false }
def FnSkipSpaceGrowsByOneWithEachBlankPutInAtThePositionSaid : Prop := fnSkipSpaceGrowsByOneWithEachBlankPutInAtThePositionRow.holds Try.pinned (OpenSpec.ofChange fnSkipSpaceGrowsByOneWithEachBlankPutInAtThePositionSpec)

/-- ITS FALSE NEIGHBOUR: 'it returns false'. Refute it at one input. -/
def fnSkipSpaceGrowsByOneWithEachBlankPutInAtThePositionWrong : ChangeSpec := { name := "fnSkipSpaceGrowsByOneWithEachBlankPutInAtThePosition", fn := fun _ => fun
  | [d1, d2, d3] => { results := [.lit (.bool false)], args := [d1, d2, d3] }
  | _ => none }
def FnSkipSpaceGrowsByOneWithEachBlankPutInAtThePositionWrongFalsely : Prop := fnSkipSpaceGrowsByOneWithEachBlankPutInAtThePositionRow.holds Try.pinned (OpenSpec.ofChange fnSkipSpaceGrowsByOneWithEachBlankPutInAtThePositionWrong)

/-- 'zzlaws_internal_syntax_b1.FnSkipSpaceOnAPrefixStopsAtTheCutOrSooner': WHATEVER THE INPUT: true; the input reads as it did. -/
def fnSkipSpaceOnAPrefixStopsAtTheCutOrSoonerSpec : ChangeSpec := { name := "fnSkipSpaceOnAPrefixStopsAtTheCutOrSooner", fn := fun _ => fun
  | [d1, d2, d3] => { results := [.lit (.bool true)], args := [d1, d2, d3] }
  | _ => none }
def fnSkipSpaceOnAPrefixStopsAtTheCutOrSoonerRow : OpenClaim := { program := "qxb6619357a", sum := "bdb50ae58adf868fb9251d74adf3cc7ca723db04cf18129cabbe252941aecef7", func := "example.com/proofwire/proofwire/zzlaws_internal_syntax_b1.FnSkipSpaceOnAPrefixStopsAtTheCutOrSooner", spec := "fnSkipSpaceOnAPrefixStopsAtTheCutOrSooner", apart := false }
def FnSkipSpaceOnAPrefixStopsAtTheCutOrSoonerSaid : Prop := fnSkipSpaceOnAPrefixStopsAtTheCutOrSoonerRow.holds Try.pinned (OpenSpec.ofChange fnSkipSpaceOnAPrefixStopsAtTheCutOrSoonerSpec)

/-- ITS FALSE NEIGHBOUR: 'it returns false'. Refute it at one input. -/
def fnSkipSpaceOnAPrefixStopsAtTheCutOrSoonerWrong : ChangeSpec := { name := "fnSkipSpaceOnAPrefixStopsAtTheCutOrSooner", fn := fun _ => fun
  | [d1, d2, d3] => { results := [.lit (.bool false)], args := [d1, d2, d3] }
  | _ => none }
def FnSkipSpaceOnAPrefixStopsAtTheCutOrSoonerWrongFalsely : Prop := fnSkipSpaceOnAPrefixStopsAtTheCutOrSoonerRow.holds Try.pinned (OpenSpec.ofChange fnSkipSpaceOnAPrefixStopsAtTheCutOrSoonerWrong)

/-- 'zzlaws_internal_syntax_b1.FnDigitsCountGrowsByOneWithEachDigitPutInAtThePosition': WHATEVER THE INPUT: true; the input reads as it did. -/
def fnDigitsCountGrowsByOneWithEachDigitPutInAtThePositionSpec : ChangeSpec := { name := "fnDigitsCountGrowsByOneWithEachDigitPutInAtThePosition", fn := fun _ => fun
  | [d1, d2, d3] => { results := [.lit (.bool true)], args := [d1, d2, d3] }
  | _ => none }
def fnDigitsCountGrowsByOneWithEachDigitPutInAtThePositionRow : OpenClaim := { program := "qxb6619357a", sum := "bdb50ae58adf868fb9251d74adf3cc7ca723db04cf18129cabbe252941aecef7", func := "example.com/proofwire/proofwire/zzlaws_internal_syntax_b1.FnDigitsCountGrowsByOneWithEachDigitPutInAtThePosition", spec := "fnDigitsCountGrowsByOneWithEachDigitPutInAtThePosition", apart := false }
def FnDigitsCountGrowsByOneWithEachDigitPutInAtThePositionSaid : Prop := fnDigitsCountGrowsByOneWithEachDigitPutInAtThePositionRow.holds Try.pinned (OpenSpec.ofChange fnDigitsCountGrowsByOneWithEachDigitPutInAtThePositionSpec)

/-- ITS FALSE NEIGHBOUR: 'it returns false'. Refute it at one input. -/
def fnDigitsCountGrowsByOneWithEachDigitPutInAtThePositionWrong : ChangeSpec := { name := "fnDigitsCountGrowsByOneWithEachDigitPutInAtThePosition", fn := fun _ => fun
  | [d1, d2, d3] => { results := [.lit (.bool false)], args := [d1, d2, d3] }
  | _ => none }
def FnDigitsCountGrowsByOneWithEachDigitPutInAtThePositionWrongFalsely : Prop := fnDigitsCountGrowsByOneWithEachDigitPutInAtThePositionRow.holds Try.pinned (OpenSpec.ofChange fnDigitsCountGrowsByOneWithEachDigitPutInAtThePositionWrong)

/-- 'zzlaws_internal_syntax_b1.FnDigitsOnAPrefixReadsTheSameRunCutShort': WHATEVER THE INPUT: true; the input reads as it did. -/
def fnDigitsOnAPrefixReadsTheSameRunCutShortSpec : ChangeSpec := { name := "fnDigitsOnAPrefixReadsTheSameRunCutShort", fn := fun _ => fun
  | [d1, d2, d3] => { results := [.lit (.bool true)], args := [d1, d2, d3] }
  | _ => none }
def fnDigitsOnAPrefixReadsTheSameRunCutShortRow : OpenClaim := { program := "qxb6619357a", sum := "bdb50ae58adf868fb9251d74adf3cc7ca723db04cf18129cabbe252941aecef7", func := "example.com/proofwire/proofwire/zzlaws_internal_syntax_b1.FnDigitsOnAPrefixReadsTheSameRunCutShort", spec := "fnDigitsOnAPrefixReadsTheSameRunCutShort", apart := false }
def FnDigitsOnAPrefixReadsTheSameRunCutShortSaid : Prop := fnDigitsOnAPrefixReadsTheSameRunCutShortRow.holds Try.pinned (OpenSpec.ofChange fnDigitsOnAPrefixReadsTheSameRunCutShortSpec)

/-- ITS FALSE NEIGHBOUR: 'it returns false'. Refute it at one input. -/
def fnDigitsOnAPrefixReadsTheSameRunCutShortWrong : ChangeSpec := { name := "fnDigitsOnAPrefixReadsTheSameRunCutShort", fn := fun _ => fun
  | [d1, d2, d3] => { results := [.lit (.bool false)], args := [d1, d2, d3] }
  | _ => none }
def FnDigitsOnAPrefixReadsTheSameRunCutShortWrongFalsely : Prop := fnDigitsOnAPrefixReadsTheSameRunCutShortRow.holds Try.pinned (OpenSpec.ofChange fnDigitsOnAPrefixReadsTheSameRunCutShortWrong)

/-- 'zzlaws_internal_syntax_b1.FnAcceptTakesExactlyTheBytePutInAtThePosition': WHATEVER THE INPUT: true; the input reads as it did. -/
def fnAcceptTakesExactlyTheBytePutInAtThePositionSpec : ChangeSpec := { name := "fnAcceptTakesExactlyTheBytePutInAtThePosition", fn := fun _ => fun
  | [d1, d2, d3, d4] => { results := [.lit (.bool true)], args := [d1, d2, d3, d4] }
  | _ => none }
def fnAcceptTakesExactlyTheBytePutInAtThePositionRow : OpenClaim := { program := "qxb6619357a", sum := "bdb50ae58adf868fb9251d74adf3cc7ca723db04cf18129cabbe252941aecef7", func := "example.com/proofwire/proofwire/zzlaws_internal_syntax_b1.FnAcceptTakesExactlyTheBytePutInAtThePosition", spec := "fnAcceptTakesExactlyTheBytePutInAtThePosition", apart := false }
def FnAcceptTakesExactlyTheBytePutInAtThePositionSaid : Prop := fnAcceptTakesExactlyTheBytePutInAtThePositionRow.holds Try.pinned (OpenSpec.ofChange fnAcceptTakesExactlyTheBytePutInAtThePositionSpec)

/-- ITS FALSE NEIGHBOUR: 'it returns false'. Refute it at one input. -/
def fnAcceptTakesExactlyTheBytePutInAtThePositionWrong : ChangeSpec := { name := "fnAcceptTakesExactlyTheBytePutInAtThePosition", fn := fun _ => fun
  | [d1, d2, d3, d4] => { results := [.lit (.bool false)], args := [d1, d2, d3, d4] }
  | _ => none }
def FnAcceptTakesExactlyTheBytePutInAtThePositionWrongFalsely : Prop := fnAcceptTakesExactlyTheBytePutInAtThePositionRow.holds Try.pinned (OpenSpec.ofChange fnAcceptTakesExactlyTheBytePutInAtThePositionWrong)

end Rows
end Go.Proofs.Qxb6619357a
