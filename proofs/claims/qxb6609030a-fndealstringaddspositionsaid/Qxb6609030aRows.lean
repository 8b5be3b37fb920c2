/-
  No cell of these rows narrows 'for every input' (looked for: loops, veiled, ifaces, maps, wideKeys, modest, calm, conditions, laid).
  DERIVED. THE GIVEN ROWS OF THIS SEAT. 4 by the template 'for every input the law returns true; each argument reads behind the call as it read before'; 0 by the template 'total and deterministic' (their statements: Qxb6609030aTotals.lean).
  GIVEN WITH THE SEED: the statements are not yours to turn. If you find one false, say at which input.
  Laid BY PROGRAM, IN A SANDBOX (cutbox-rows.mjs): the forced cells as the released guide's own fill.sh prints them over the translation 1cf50608a8cc621e… (all of the seat's roots in one cut). By AI agents, Wed Nov 11 2026. No macro, syntax, notation, axiom, sorry.
-/
import Derived.Test.Qxb6609030aChecked
import GoSem.Claim
import GoSem.ClaimJoined
import GoSem.ClaimMapViews
import Derived.JoinedTies
import Derived.KernelRfl
namespace Go.Proofs.Qxb6609030a
/- THE CELL 'sum', in the pinned program and in every row, IS THE sha256 OF THE DUMP (.gsa) THAT Qxb6609030aProg.lean LOADS. Nothing in Lean hashes anything: it is a label: what it is worth is what the hold of that sum in a sandbox is worth. -/
noncomputable def Try.pinned : Pinned := { name := "qxb6609030a", sum := "1cf50608a8cc621e74bdf2d342628054994752ac84e5a399e20195cc5b0074e0", checked := Try.checked }
namespace Rows
def none {H : Type} : Left H := { results := [], args := [] }

/-- 'zzlaws_pkg_poker_b1.FnNewCardOrdersByRankThenSuit': WHATEVER THE INPUT: true; the input reads as it did. -/
def fnNewCardOrdersByRankThenSuitSpec : ChangeSpec := { name := "fnNewCardOrdersByRankThenSuit", fn := fun _ => fun
  | [d1, d2, d3, d4] => { results := [.lit (.bool true)], args := [d1, d2, d3, d4] }
  | _ => none }
def fnNewCardOrdersByRankThenSuitRow : OpenClaim := { program := "qxb6609030a", sum := "1cf50608a8cc621e74bdf2d342628054994752ac84e5a399e20195cc5b0074e0", func := "example.com/tablewire/tablewire/zzlaws_pkg_poker_b1.FnNewCardOrdersByRankThenSuit", spec := "fnNewCardOrdersByRankThenSuit", apart := false }
def FnNewCardOrdersByRankThenSuitSaid : Prop := fnNewCardOrdersByRankThenSuitRow.holds Try.pinned (OpenSpec.ofChange fnNewCardOrdersByRankThenSuitSpec)

/-- ITS FALSE NEIGHBOUR: 'it returns false'. Refute it at one input. -/
def fnNewCardOrdersByRankThenSuitWrong : ChangeSpec := { name := "fnNewCardOrdersByRankThenSuit", fn := fun _ => fun
  | [d1, d2, d3, d4] => { results := [.lit (.bool false)], args := [d1, d2, d3, d4] }
  | _ => none }
def FnNewCardOrdersByRankThenSuitWrongFalsely : Prop := fnNewCardOrdersByRankThenSuitRow.holds Try.pinned (OpenSpec.ofChange fnNewCardOrdersByRankThenSuitWrong)

/-- 'zzlaws_pkg_poker_b1.FnNewCardUndoesRankAndSuit': WHATEVER THE INPUT: true; the input reads as it did. -/
def fnNewCardUndoesRankAndSuitSpec : ChangeSpec := { name := "fnNewCardUndoesRankAndSuit", fn := fun _ => fun
  | [d] => { results := [.lit (.bool true)], args := [d] }
  | _ => none }
def fnNewCardUndoesRankAndSuitRow : OpenClaim := { program := "qxb6609030a", sum := "1cf50608a8cc621e74bdf2d342628054994752ac84e5a399e20195cc5b0074e0", func := "example.com/tablewire/tablewire/zzlaws_pkg_poker_b1.FnNewCardUndoesRankAndSuit", spec := "fnNewCardUndoesRankAndSuit", apart := false }
def FnNewCardUndoesRankAndSuitSaid : Prop := fnNewCardUndoesRankAndSuitRow.holds Try.pinned (OpenSpec.ofChange fnNewCardUndoesRankAndSuitSpec)

/-- ITS FALSE NEIGHBOUR: 'it returns false'. Refute it at one input. -/
def fnNewCardUndoesRankAndSuitWrong : ChangeSpec := { name := "fnNewCardUndoesRankAndSuit", fn := fun _ => fun
  | [d] => { results := [.lit (.bool false)], args := [d] }
  | _ => none }
def FnNewCardUndoesRankAndSuitWrongFalsely : Prop := fnNewCardUndoesRankAndSuitRow.holds Try.pinned (OpenSpec.ofChange fnNewCardUndoesRankAndSuitWrong)

/-- 'zzlaws_pkg_poker_b1.FnDealStringAddsRound': WHATEVER THE INPUT: true; the input reads as it did. -/
def fnDealStringAddsRoundSpec : ChangeSpec := { name := "fnDealStringAddsRound", fn := fun _ => fun
  | [d1, d2, d3] => { results := [.lit (.bool true)], args := [d1, d2, d3] }
  | _ => none }
def fnDealStringAddsRoundRow : OpenClaim := { program := "qxb6609030a", sum := "1cf50608a8cc621e74bdf2d342628054994752ac84e5a399e20195cc5b0074e0", func := "example.com/tablewire/tablewire/zzlaws_pkg_poker_b1.FnDealStringAddsRound", spec := "fnDealStringAddsRound", inPlace := ["internal/abi.NoEscape"], unfollowed := true, recurses := true, apart := false }
def FnDealStringAddsRoundSaid : Prop := fnDealStringAddsRoundRow.holds Try.pinned (OpenSpec.ofChange fnDealStringAddsRoundSpec)

/-- ITS FALSE NEIGHBOUR: 'it returns false'. Refute it at one input. -/
def fnDealStringAddsRoundWrong : ChangeSpec := { name := "fnDealStringAddsRound", fn := fun _ => fun
  | [d1, d2, d3] => { results := [.lit (.bool false)], args := [d1, d2, d3] }
  | _ => none }
def FnDealStringAddsRoundWrongFalsely : Prop := fnDealStringAddsRoundRow.holds Try.pinned (OpenSpec.ofChange fnDealStringAddsRoundWrong)

/-- 'zzlaws_pkg_poker_b1.FnDealStringAddsPosition': WHATEVER THE INPUT: true; the input reads as it did. -/
def fnDealStringAddsPositionSpec : ChangeSpec := { name := "fnDealStringAddsPosition", fn := fun _ => fun
  | [d1, d2, d3] => { results := [.lit (.bool true)], args := [d1, d2, d3] }
  | _ => none }
def fnDealStringAddsPositionRow : OpenClaim := { program := "qxb6609030a", sum := "1cf50608a8cc621e74bdf2d342628054994752ac84e5a399e20195cc5b0074e0", func := "example.com/tablewire/tablewire/zzlaws_pkg_poker_b1.FnDealStringAddsPosition", spec := "fnDealStringAddsPosition", inPlace := ["internal/abi.NoEscape"], unfollowed := true, recurses := true, apart := false }
def FnDealStringAddsPositionSaid : Prop := fnDealStringAddsPositionRow.holds Try.pinned (OpenSpec.ofChange fnDealStringAddsPositionSpec)

/-- ITS FALSE NEIGHBOUR: 'it returns false'. Refute it at one input. -/
def fnDealStringAddsPositionWrong : ChangeSpec := { name := "fnDealStringAddsPosition", fn := fun _ => fun
  | [d1, d2, d3] => { results := [.lit (.bool false)], args := [d1, d2, d3] }
  | _ => none }
def FnDealStringAddsPositionWrongFalsely : Prop := fnDealStringAddsPositionRow.holds Try.pinned (OpenSpec.ofChange fnDealStringAddsPositionWrong)

end Rows
end Go.Proofs.Qxb6609030a
