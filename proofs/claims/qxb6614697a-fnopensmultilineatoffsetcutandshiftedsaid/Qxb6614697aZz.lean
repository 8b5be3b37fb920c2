/-
  ZZparserOpensMultiLine (6) by its contract: it tells whether three equal quotes stand at the offset; it lays one new block.
-/
import Derived.Test.Qxb6614697aOpens
import Derived.WalkSmall
namespace Go.Proofs.Qxb6614697a.Opens
open Go.ChangeShapes Go.WideShapes Go.ChangeAt Go.RowKit
set_option linter.unusedVariables false

def opens (len : Nat) (f : Nat → Int) (p : Nat) : Bool := decide (p + 2 < len) && three (f p) (f (p + 1)) (f (p + 2))

theorem zz_any (a : Option Addr) (b off len cap p : Nat) (f : Nat → Int) (w : World) (hl : len ≤ 2000000) (hp : p ≤ len)
    (ha : 0 < len → a = some ⟨b, off, none⟩) (hc : ∀ i, i < len → w.cell? ⟨b, off + i, none⟩ = some (.int .u8 (f i))) :
    Calls Try.prog 6 #[.slice a len cap, .int .i64 p] w fun e w' => e = .returned (.bool (opens len f p)) ∧ Below w.heap.size w w' := by
  by_cases h : p + 2 < len
  · obtain rfl := ha (by omega)
    have hx := hc p (by omega)
    have hy := hc (p + 1) (by omega)
    have hz := hc (p + 2) (by omega)
    have e : opens len f p = three (f p) (f (p + 1)) (f (p + 2)) := by simp [opens, h]
    rw [e]
    clear e hc ha
    have hb : b < w.heap.size := block_lt_of_cell hx
    go_enter Try.func6, Try.ntmps6
    go_wp2_with fail
    refine (op_yes w.heap.size b off len cap p (f p) (f (p + 1)) (f (p + 2)) _ (by simp) (by simp) hl h ?_ ?_ ?_).mono ?_
    · rw [World.cell?_alloc_past _ _ _ hb]; exact hx
    · rw [World.cell?_alloc_past _ _ _ hb]; exact hy
    · rw [World.cell?_alloc_past _ _ _ hb]; exact hz
    rintro e w' ⟨rfl, n, rfl⟩
    go_wp2
    go_ret
    exact ⟨rfl, below_drewN ((Below.refl _ _).alloc (Nat.le_refl _) _) _⟩
  · have e : opens len f p = false := by simp [opens, h]
    rw [e]
    clear e hc ha
    go_enter Try.func6, Try.ntmps6
    go_wp2_with fail
    refine (op_no w.heap.size a len cap p _ (by simp) (by simp) hl (by omega) (by omega)).mono ?_
    rintro e w' ⟨rfl, n, rfl⟩
    go_wp2
    go_ret
    exact ⟨rfl, below_drewN ((Below.refl _ _).alloc (Nat.le_refl _) _) _⟩

end Go.Proofs.Qxb6614697a.Opens
