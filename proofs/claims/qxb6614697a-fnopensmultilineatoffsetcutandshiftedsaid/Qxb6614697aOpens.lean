/-
  opensMultiLine (8) and ZZparserOpensMultiLine (6), by contracts.
-/
import Derived.Test.Qxb6614697aRows
import Derived.WalkKit
import Derived.ProofKit
import Derived.Below
import Derived.Outline
import Derived.Deep.QuietTactic
import Derived.BigQuiet
namespace Go.Proofs.Qxb6614697a.Opens
open Go.ChangeShapes Go.WideShapes Go.ChangeAt Go.RowKit
set_option linter.unusedVariables false

theorem ret_bool {a b : Bool} (h : a = b) : Ending.returned (.bool a) = .returned (.bool b) := by rw [h]

theorem op_no (B : Nat) (a : Option Addr) (len cap p : Nat) (w : World) (h0 : w.cell? ⟨B, 0, none⟩ = some (.slice a len cap)) (h1 : w.cell? ⟨B, 1, none⟩ = some (.int .i64 p))
    (hl : len ≤ 2000000) (hp : p ≤ 2000000) (hno : len ≤ p + 2) :
    Calls Try.prog 8 #[.pointer (some ⟨B, 0, none⟩)] w fun e w' => e = .returned (.bool false) ∧ ∃ n, w' = w.drewN n := by
  have hn : (len : Int) ≤ (p : Int) + 2 := by omega
  go_enter Try.func8, Try.ntmps8
  go_wp2
  go_quiet (fail)
  go_wp2
  go_ret
  exact ⟨rfl, _, rfl⟩

theorem d3 (w : World) (a b c : Nat) : ((w.drewN a).drewN b).drewN c = w.drewN (a + b + c) := by simp

/-- What the three bytes say. -/
def three (x y z : Int) : Bool := (x == 34 || x == 39) && y == x && z == x

set_option maxHeartbeats 1000000 in
theorem op_yes (B b off len cap p : Nat) (x y z : Int) (w : World) (h0 : w.cell? ⟨B, 0, none⟩ = some (.slice (some ⟨b, off, none⟩) len cap)) (h1 : w.cell? ⟨B, 1, none⟩ = some (.int .i64 p))
    (hl : len ≤ 2000000) (hyes : p + 2 < len)
    (hx : w.cell? ⟨b, off + p, none⟩ = some (.int .u8 x)) (hy : w.cell? ⟨b, off + (p + 1), none⟩ = some (.int .u8 y)) (hz : w.cell? ⟨b, off + (p + 2), none⟩ = some (.int .u8 z)) :
    Calls Try.prog 8 #[.pointer (some ⟨B, 0, none⟩)] w fun e w' => e = .returned (.bool (three x y z)) ∧ ∃ n, w' = w.drewN n := by
  have hn : (p : Int) + 2 < (len : Int) := by omega
  by_cases c1 : (x == 34) = true
  · by_cases c2 : (y == x) = true
    · by_cases c3 : (z == x) = true
      · have e : three x y z = true := by simp [three, c1, c2, c3]
        rw [e]; clear e
        go_enter Try.func8, Try.ntmps8
        go_wp2
        go_quiet (fail)
        go_wp2
        go_quiet (fail)
        go_wp2
        go_quiet (fail)
        go_wp2
        go_ret
        exact ⟨rfl, _, d3 _ _ _ _⟩
      · have c3' : (z == x) = false := by simpa using c3
        clear c3
        have e : three x y z = false := by simp [three, c3']
        rw [e]; clear e
        go_enter Try.func8, Try.ntmps8
        go_wp2
        go_quiet (fail)
        go_wp2
        go_quiet (fail)
        go_wp2
        go_quiet (fail)
        go_wp2
        go_ret
        exact ⟨rfl, _, d3 _ _ _ _⟩
    · have c2' : (y == x) = false := by simpa using c2
      clear c2
      have e : three x y z = false := by simp [three, c2']
      rw [e]; clear e
      go_enter Try.func8, Try.ntmps8
      go_wp2
      go_quiet (fail)
      go_wp2
      go_quiet (fail)
      go_wp2
      go_quiet (fail)
      go_wp2
      go_ret
      exact ⟨rfl, _, d3 _ _ _ _⟩
  have c1' : (x == 34) = false := by simpa using c1
  clear c1
  by_cases c4 : (x == 39) = true
  · by_cases c2 : (y == x) = true
    · by_cases c3 : (z == x) = true
      · have e : three x y z = true := by simp [three, c1', c4, c2, c3]
        rw [e]; clear e
        go_enter Try.func8, Try.ntmps8
        go_wp2
        go_quiet (fail)
        go_wp2
        go_quiet (fail)
        go_wp2
        go_quiet (fail)
        go_wp2
        go_ret
        exact ⟨rfl, _, d3 _ _ _ _⟩
      · have c3' : (z == x) = false := by simpa using c3
        clear c3
        have e : three x y z = false := by simp [three, c3']
        rw [e]; clear e
        go_enter Try.func8, Try.ntmps8
        go_wp2
        go_quiet (fail)
        go_wp2
        go_quiet (fail)
        go_wp2
        go_quiet (fail)
        go_wp2
        go_ret
        exact ⟨rfl, _, d3 _ _ _ _⟩
    · have c2' : (y == x) = false := by simpa using c2
      clear c2
      have e : three x y z = false := by simp [three, c2']
      rw [e]; clear e
      go_enter Try.func8, Try.ntmps8
      go_wp2
      go_quiet (fail)
      go_wp2
      go_quiet (fail)
      go_wp2
      go_quiet (fail)
      go_wp2
      go_ret
      exact ⟨rfl, _, d3 _ _ _ _⟩
  · have c4' : (x == 39) = false := by simpa using c4
    clear c4
    have e : three x y z = false := by simp [three, c1', c4']
    rw [e]; clear e
    go_enter Try.func8, Try.ntmps8
    go_wp2
    go_quiet (fail)
    go_wp2
    go_quiet (fail)
    go_wp2
    go_quiet (fail)
    go_wp2
    go_ret
    exact ⟨rfl, _, d3 _ _ _ _⟩

end Go.Proofs.Qxb6614697a.Opens
