/-
  No cell of these rows narrows 'for every input' (looked for: loops, veiled, ifaces, maps, wideKeys, modest, calm, conditions, laid).
  DERIVED. THE GIVEN ROWS OF THIS SEAT. 2 by the template 'for every input the law returns true; each argument reads behind the call as it read before'; 0 by the template 'total and deterministic' (their statements: Qxb6614697aTotals.lean).
  GIVEN WITH THE SEED: the statements are not yours to turn. If you find one false, say at which input.
  Laid BY PROGRAM, IN A SANDBOX (cutbox-rows.mjs): the forced cells as the released guide's own fill.sh prints them over the translation 1b06d990e9d7ddd3… (all of the seat's roots in one cut). By AI agents, Wed Nov 11 2026. No macro, syntax, notation, axiom, sorry.
-/
import Derived.Test.Qxb6614697aChecked
import GoSem.Claim
import GoSem.ClaimJoined
import GoSem.ClaimMapViews
import Derived.JoinedTies
import Derived.KernelRfl
namespace Go.Proofs.Qxb6614697a
/- THE CELL 'sum', in the pinned program and in every row, IS THE sha256 OF THE DUMP (.gsa) THAT Qxb6614697aProg.lean LOADS. Nothing in Lean hashes anything: it is a label: what it is worth is what the hold of that sum in a sandbox is worth. -/
noncomputable def Try.pinned : Pinned := { name := "qxb6614697a", sum := "1b06d990e9d7ddd36d83dfb8f5bb94c30e386241dc6a444a919c4c0eb740fcef", checked := Try.checked }
namespace Rows
def none {H : Type} : Left H := { results := [], args := [] }

/-- 'zzlaws_root_b1.FnOpensMultiLineAtOffsetCutAndShifted': WHATEVER THE INPUT: true; the input reads as it did. -/
def fnOpensMultiLineAtOffsetCutAndShiftedSpec : ChangeSpec := { name := "fnOpensMultiLineAtOffsetCutAndShifted", fn := fun _ => fun
  | [d1, d2, d3] => { results := [.lit (.bool true)], args := [d1, d2, d3] }
  | _ => none }
def fnOpensMultiLineAtOffsetCutAndShiftedRow : OpenClaim := { program := "qxb6614697a", sum := "1b06d990e9d7ddd36d83dfb8f5bb94c30e386241dc6a444a919c4c0eb740fcef", func := "example.com/strict-conf/strict-conf/zzlaws_root_b1.FnOpensMultiLineAtOffsetCutAndShifted", spec := "fnOpensMultiLineAtOffsetCutAndShifted", apart := false }
def FnOpensMultiLineAtOffsetCutAndShiftedSaid : Prop := fnOpensMultiLineAtOffsetCutAndShiftedRow.holds Try.pinned (OpenSpec.ofChange fnOpensMultiLineAtOffsetCutAndShiftedSpec)

/-- ITS FALSE NEIGHBOUR: 'it returns false'. Refute it at one input. -/
def fnOpensMultiLineAtOffsetCutAndShiftedWrong : ChangeSpec := { name := "fnOpensMultiLineAtOffsetCutAndShifted", fn := fun _ => fun
  | [d1, d2, d3] => { results := [.lit (.bool false)], args := [d1, d2, d3] }
  | _ => none }
def FnOpensMultiLineAtOffsetCutAndShiftedWrongFalsely : Prop := fnOpensMultiLineAtOffsetCutAndShiftedRow.holds Try.pinned (OpenSpec.ofChange fnOpensMultiLineAtOffsetCutAndShiftedWrong)

/-- 'zzlaws_root_b1.FnOpensMultiLineCountsARunOfQuotes': WHATEVER THE INPUT: true; the input reads as it did. -/
def fnOpensMultiLineCountsARunOfQuotesSpec : ChangeSpec := { name := "fnOpensMultiLineCountsARunOfQuotes", fn := fun _ => fun
  | [d1, d2, d3, d4] => { results := [.lit (.bool true)], args := [d1, d2, d3, d4] }
  | _ => none }
def fnOpensMultiLineCountsARunOfQuotesRow : OpenClaim := { program := "qxb6614697a", sum := "1b06d990e9d7ddd36d83dfb8f5bb94c30e386241dc6a444a919c4c0eb740fcef", func := "example.com/strict-conf/strict-conf/zzlaws_root_b1.FnOpensMultiLineCountsARunOfQuotes", spec := "fnOpensMultiLineCountsARunOfQuotes", apart := false }
def FnOpensMultiLineCountsARunOfQuotesSaid : Prop := fnOpensMultiLineCountsARunOfQuotesRow.holds Try.pinned (OpenSpec.ofChange fnOpensMultiLineCountsARunOfQuotesSpec)

/-- ITS FALSE NEIGHBOUR: 'it returns false'. Refute it at one input. -/
def fnOpensMultiLineCountsARunOfQuotesWrong : ChangeSpec := { name := "fnOpensMultiLineCountsARunOfQuotes", fn := fun _ => fun
  | [d1, d2, d3, d4] => { results := [.lit (.bool false)], args := [d1, d2, d3, d4] }
  | _ => none }
def FnOpensMultiLineCountsARunOfQuotesWrongFalsely : Prop := fnOpensMultiLineCountsARunOfQuotesRow.holds Try.pinned (OpenSpec.ofChange fnOpensMultiLineCountsARunOfQuotesWrong)

end Rows
end Go.Proofs.Qxb6614697a
