/-
  The three small functions on the road of every statement of this seat: ZZnewCard (7), Rank (8), Suit (9).
-/
import Derived.Test.Qxb6609030aRows
import Derived.WalkKit
import Derived.ProofKit
namespace Go.Proofs.Qxb6609030a.CardWalks
open Go.ChangeShapes Go.WideShapes Go.ChangeAt Go.RowKit

theorem newCard_any (r s : Int) (w : World) (h0 : 0 ≤ r) (h1 : 0 ≤ s) (h2 : r * 4 + s ≤ 255) :
    Calls Try.prog 7 #[.int .i64 r, .int .i64 s] w fun e w' => e = .returned (.int .u8 (r * 4 + s)) ∧ w' = w := by
  go_enter Try.func7, Try.ntmps7
  go_wp2
  go_ret
  exact ⟨rfl, rfl⟩

theorem rank_any (c : Int) (w : World) (h0 : 0 ≤ c) (h1 : c ≤ 255) :
    Calls Try.prog 8 #[.int .u8 c] w fun e w' => e = .returned (.int .i64 (c / 4)) ∧ w' = w := by
  go_enter Try.func8, Try.ntmps8
  go_wp2
  go_ret
  exact ⟨rfl, rfl⟩

theorem suit_any (c : Int) (w : World) (h0 : 0 ≤ c) (h1 : c ≤ 255) :
    Calls Try.prog 9 #[.int .u8 c] w fun e w' => e = .returned (.int .i64 (c % 4)) ∧ w' = w := by
  go_enter Try.func9, Try.ntmps9
  go_wp2
  go_ret
  exact ⟨rfl, rfl⟩

end Go.Proofs.Qxb6609030a.CardWalks
