/-
  What both walks of this seat are told of their slices; the program's two bounds on lengths (5, 7); the content of the made slice, cell by cell.
-/
import Derived.Test.Qxb6614697aRows
import Derived.WalkKit
import Derived.ProofKit
import Derived.Below
import Derived.OpenShut
import Derived.Deep.OwnRows
namespace Go.Proofs.Qxb6614697a.Src
open Go.ChangeShapes Go.WideShapes Go.ChangeAt Go.RowKit
set_option linter.unusedVariables false

/-- A slice of bytes that came in, nil or not: its elements' cells. -/
theorem row_src {w : World} {a : Option Addr} {len cap : Nat} {zs : List Int}
    (h : (a = none ∧ len = 0 ∧ cap = 0 ∧ zs = []) ∨ ∃ x, a = some x ∧ len ≤ cap ∧ cap ≤ maxLen ∧ zs.length = cap ∧ (∀ i, i < zs.length → w.cell? (x.add i) = some (.int .u8 (zs.getD i 0))) ∧ ∀ n ∈ zs, (Lit.int .u8 n).wf = true) :
    ∃ b off, (0 < len → a = some ⟨b, off, none⟩) ∧ (∀ i, i < len → w.cell? ⟨b, off + i, none⟩ = some (.int .u8 (zs.getD i 0))) ∧ (∀ i, i < len → 0 ≤ zs.getD i 0 ∧ zs.getD i 0 ≤ 255) ∧ len ≤ cap ∧ (a = none → len = 0 ∧ cap = 0) := by
  rcases h with ⟨rfl, rfl, rfl, rfl⟩ | ⟨x, rfl, hl, hm, hz, hcell, hwz⟩
  · exact ⟨0, 0, fun h => absurd h (by omega), fun i h => absurd h (by omega), fun i h => absurd h (by omega), Nat.le_refl _, fun _ => ⟨rfl, rfl⟩⟩
  · obtain ⟨b, off, spot⟩ := x
    by_cases h0 : len = 0
    · subst h0
      exact ⟨0, 0, fun h => absurd h (by omega), fun i h => absurd h (by omega), fun i h => absurd h (by omega), by omega, fun h => by cases h⟩
    · have hc := hcell 0 (by omega)
      have hspot : spot = none := by simpa [Addr.add] using World.cell?_spot hc
      subst hspot
      refine ⟨b, off, fun _ => rfl, fun i hi => ?_, fun i hi => ?_, hl, fun h => by cases h⟩
      · have h := hcell i (by omega)
        by_cases hi0 : i = 0
        · subst hi0; simpa [Addr.add] using h
        · simpa [Addr.add, hi0] using h
      have hmem : zs.getD i 0 ∈ zs := by
        rw [List.getD_eq_getElem?_getD, List.getElem?_eq_getElem (show i < zs.length by omega)]
        exact List.getElem_mem _
      exact bounds_u8 (hwz _ hmem)

theorem bytes5 (a0 : Option Addr) (len0 cap0 : Nat) (p : Int) (a2 : Option Addr) (len2 cap2 : Nat) (w : World) :
    Calls Try.prog 5 #[.slice a0 len0 cap0, .int .i64 p, .slice a2 len2 cap2] w fun e w' => e = .returned (.bool (decide (len0 + len2 ≤ 1048576))) ∧ w = w' := by
  by_cases h0 : (1048576 : Int) < len0
  · have e : decide (len0 + len2 ≤ 1048576) = false := by simp; omega
    rw [e]; clear e
    go_enter Try.func5, Try.ntmps5
    go_wp2
    go_ret
    exact ⟨rfl, rfl⟩
  by_cases h2 : (1048576 : Int) < len2
  · have e : decide (len0 + len2 ≤ 1048576) = false := by simp; omega
    rw [e]; clear e
    go_enter Try.func5, Try.ntmps5
    go_wp2
    go_ret
    exact ⟨rfl, rfl⟩
  by_cases h3 : (1048576 : Int) < len0 + len2
  · have e : decide (len0 + len2 ≤ 1048576) = false := by simp; omega
    rw [e]; clear e
    go_enter Try.func5, Try.ntmps5
    go_wp2
    go_ret
    exact ⟨rfl, rfl⟩
  · have e : decide (len0 + len2 ≤ 1048576) = true := by simp; omega
    rw [e]; clear e
    go_enter Try.func5, Try.ntmps5
    go_wp2
    go_ret
    exact ⟨rfl, rfl⟩

theorem bytes7 (a0 : Option Addr) (len0 cap0 : Nat) (q p : Int) (a2 : Option Addr) (len2 cap2 : Nat) (w : World) :
    Calls Try.prog 7 #[.slice a0 len0 cap0, .int .u8 q, .int .i64 p, .slice a2 len2 cap2] w fun e w' => e = .returned (.bool (decide (len0 + len2 ≤ 1048576))) ∧ w = w' := by
  by_cases h0 : (1048576 : Int) < len0
  · have e : decide (len0 + len2 ≤ 1048576) = false := by simp; omega
    rw [e]; clear e
    go_enter Try.func7, Try.ntmps7
    go_wp2
    go_ret
    exact ⟨rfl, rfl⟩
  by_cases h2 : (1048576 : Int) < len2
  · have e : decide (len0 + len2 ≤ 1048576) = false := by simp; omega
    rw [e]; clear e
    go_enter Try.func7, Try.ntmps7
    go_wp2
    go_ret
    exact ⟨rfl, rfl⟩
  by_cases h3 : (1048576 : Int) < len0 + len2
  · have e : decide (len0 + len2 ≤ 1048576) = false := by simp; omega
    rw [e]; clear e
    go_enter Try.func7, Try.ntmps7
    go_wp2
    go_ret
    exact ⟨rfl, rfl⟩
  · have e : decide (len0 + len2 ≤ 1048576) = true := by simp; omega
    rw [e]; clear e
    go_enter Try.func7, Try.ntmps7
    go_wp2
    go_ret
    exact ⟨rfl, rfl⟩

theorem info5 : (Try.prog.info? 5).map (fun i => (i.zero, i.size, i.bytes)) = some (some (.int .u8 0), 1, 1) := by kernel_rfl

/-- The made slice when its first K cells are filled with what they are to hold. -/
def stage (c : Nat → Int) (K : Nat) : Nat → Value := fun i => .int .u8 (if i < K then c i else 0)

theorem stage_made (w : World) (T : Nat) (c : Nat → Int) : (w.alloc (.cells (madeCells #[.int .u8 0] T) 5)).rowIs w.heap.size 5 T (stage c 0) :=
  (World.rowIs_made w _ T 5).congr (fun j _ => by simp [stage])

theorem stage_step {w : World} {S T K : Nat} {c : Nat → Int} (h : w.rowIs S 5 T (stage c K)) {v : Int} (hv : v = c K) : (w.setCell ⟨S, K, none⟩ (.int .u8 v)).rowIs S 5 T (stage c (K + 1)) := by
  refine (h.set K _).congr (fun i _ => ?_)
  unfold stage
  by_cases e : i = K
  · subst e; simp [hv]
  · rw [if_neg e]
    by_cases hlt : i < K
    · rw [if_pos hlt, if_pos (by omega)]
    · rw [if_neg hlt, if_neg (by omega)]

end Go.Proofs.Qxb6614697a.Src
