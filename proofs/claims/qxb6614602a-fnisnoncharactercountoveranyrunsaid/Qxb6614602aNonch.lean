/-
  The callees of the two statements on isNoncharacter: isNoncharacter (10), ZZisNoncharacter (6), b1NoncharactersBelow (7), by contracts; and the plain law of the count.
-/
import Derived.Test.Qxb6614602aRows
import Derived.WalkKit
import Derived.ProofKit
import Derived.Test.Qxb6614602aBits
namespace Go.Proofs.Qxb6614602a.Nonch
open Go.ChangeShapes Go.WideShapes Go.ChangeAt Go.RowKit

theorem ret_bool {a b : Bool} (h : a = b) : Ending.returned (.bool a) = .returned (.bool b) := by rw [h]
theorem ret_int {k : IntKind} {a b : Int} (h : a = b) : Ending.returned (.int k a) = .returned (.int k b) := by rw [h]

def nonch (r : Int) : Bool := decide ((64976 ≤ r ∧ r ≤ 65007) ∨ 65534 ≤ r % 65536)

theorem is_any (r : Int) (w : World) (h0 : 0 ≤ r) (h1 : r < 2147483648) :
    Calls Try.prog 10 #[.int .i32 r] w fun e w' => e = .returned (.bool (nonch r)) ∧ w' = w := by
  have hb := Bits.and_fffe r h0 h1
  by_cases g1 : r < 64976
  · have g1' : ¬ 64976 ≤ r := by omega
    go_enter Try.func10, Try.ntmps10
    go_wp2
    go_ret
    refine ⟨ret_bool ?_, rfl⟩
    rw [Bool.eq_iff_iff]; simp [nonch]
    omega
  by_cases g2 : 65007 < r
  · have g1' : 64976 ≤ r := by omega
    have g2' : ¬ r ≤ 65007 := by omega
    go_enter Try.func10, Try.ntmps10
    go_wp2
    go_ret
    refine ⟨ret_bool ?_, rfl⟩
    rw [Bool.eq_iff_iff]; simp [nonch]
    omega
  · have g1' : 64976 ≤ r := by omega
    have g2' : r ≤ 65007 := by omega
    go_enter Try.func10, Try.ntmps10
    go_wp2
    go_ret
    refine ⟨ret_bool ?_, rfl⟩
    rw [Bool.eq_iff_iff]; simp [nonch]
    omega

theorem zz_any (r : Int) (w : World) (h0 : 0 ≤ r) (h1 : r < 2147483648) :
    Calls Try.prog 6 #[.int .i32 r] w fun e w' => e = .returned (.bool (nonch r)) ∧ w' = w := by
  go_enter Try.func6, Try.ntmps6
  go_wp2_with (go_at_call 10; refine (is_any _ _ h0 h1).mono ?_; rintro e w' ⟨rfl, rfl⟩)
  go_ret
  exact ⟨rfl, rfl⟩

/-! ### The count -/
def below (x : Int) : Int := (if x < 64976 then 0 else if 65008 < x then 32 else x - 64976) + x / 65536 + (x + 1) / 65536

theorem below_succ (x : Int) (h0 : 0 ≤ x) : below (x + 1) = below x + if nonch x then 1 else 0 := by
  unfold below nonch
  simp only [decide_eq_true_eq]
  split <;> split <;> (try split) <;> (try split) <;> (try split) <;> omega

theorem below_bounds (x : Int) (h0 : 0 ≤ x) (h1 : x ≤ 1114112) : 0 ≤ below x ∧ below x ≤ 100 := by
  unfold below
  split <;> (try split) <;> omega

theorem below_any (x : Int) (w : World) (h0 : 0 ≤ x) (h1 : x ≤ 1114112) :
    Calls Try.prog 7 #[.int .i64 x] w fun e w' => e = .returned (.int .i64 (below x)) ∧ w' = w := by
  by_cases g1 : x < 64976
  · go_enter Try.func7, Try.ntmps7
    go_wp2
    go_ret
    refine ⟨ret_int ?_, rfl⟩
    simp [below]
    omega
  by_cases g2 : 65008 < x
  · go_enter Try.func7, Try.ntmps7
    go_wp2
    go_ret
    refine ⟨ret_int ?_, rfl⟩
    simp [below]
    omega
  · go_enter Try.func7, Try.ntmps7
    go_wp2
    go_ret
    refine ⟨ret_int ?_, rfl⟩
    simp [below]
    omega

end Go.Proofs.Qxb6614602a.Nonch
