/-
  How a slice of bytes (of cards) and a slice of such slices lie in a world; that this is carried on where nothing old is written.
-/
import Derived.Test.Qxb6609030aText
import Derived.Test.Qxb6609030aRows
import Derived.WalkKit
import Derived.ProofKit
import Derived.Below
import Derived.OpenShut
import Derived.Deep.Matrix
import Derived.Deep.OwnRows
namespace Go.Proofs.Qxb6609030a
open Go.RowKit

/-- The elements of a slice at 'a' (nil or not) are the numbers zs, each a byte in a cell. -/
def RowAt (w : World) (a : Option Addr) (zs : List Int) : Prop :=
  ∃ b o, (0 < zs.length → a = some ⟨b, o, none⟩) ∧ ∀ i, i < zs.length → w.cell? ⟨b, o + i, none⟩ = some (.int .u8 (zs.getD i 0))

/-- The elements of a slice at 'a' are slices, whose elements are the rows of R. -/
def RowsAt (w : World) (a : Option Addr) (R : List (List Int)) : Prop :=
  ∃ b o, (0 < R.length → a = some ⟨b, o, none⟩) ∧ ∀ r, r < R.length → ∃ ra rc, w.cell? ⟨b, o + r, none⟩ = some (.slice ra (R.getD r []).length rc) ∧ RowAt w ra (R.getD r []) ∧ (ra = none → (R.getD r []).length = 0 ∧ rc = 0)

theorem RowAt.later {w w' : World} {a : Option Addr} {zs : List Int} (h : RowAt w a zs) (hb : Below w.heap.size w w') : RowAt w' a zs := by
  obtain ⟨b, o, ha, hc⟩ := h
  exact ⟨b, o, ha, fun i hi => (hb.cell (block_lt_of_cell (hc i hi))).trans (hc i hi)⟩

theorem RowsAt.later {w w' : World} {a : Option Addr} {R : List (List Int)} (h : RowsAt w a R) (hb : Below w.heap.size w w') : RowsAt w' a R := by
  obtain ⟨b, o, ha, hc⟩ := h
  refine ⟨b, o, ha, fun r hr => ?_⟩
  obtain ⟨ra, rc, h1, h2, h3⟩ := hc r hr
  exact ⟨ra, rc, (hb.cell (block_lt_of_cell h1)).trans h1, h2.later hb, h3⟩

theorem RowAt.nil (w : World) (a : Option Addr) : RowAt w a [] := ⟨0, 0, fun h => absurd h (by simp), fun i h => absurd h (by simp)⟩
theorem RowsAt.nil (w : World) (a : Option Addr) : RowsAt w a [] := ⟨0, 0, fun h => absurd h (by simp), fun i h => absurd h (by simp)⟩

/-- A store into a block that holds no byte of the row. -/
theorem RowAt.setOther {w : World} {a : Option Addr} {zs : List Int} (h : RowAt w a zs) {S T i : Nat} {f : Nat → Value} {n : Nat} (hS : w.rowIs S T n f) (hf : ∀ j, j < n → ∀ x, f j ≠ .int .u8 x) (v : Value) : RowAt (w.setCell ⟨S, i, none⟩ v) a zs := by
  obtain ⟨b, o, ha, hc⟩ := h
  refine ⟨b, o, ha, fun j hj => ?_⟩
  have hne : b ≠ S := by
    intro e
    subst e
    have h1 := hc j hj
    obtain ⟨c, hb, hn, hcc⟩ := hS
    have h2 : w.cell? ⟨b, o + j, none⟩ = c[o + j]? := by simp [World.cell?, hb]
    rw [h2] at h1
    by_cases hlt : o + j < n
    · rw [hcc _ hlt] at h1
      simp only [Option.some.injEq] at h1
      exact hf _ hlt _ h1
    · rw [Array.getElem?_eq_none (by omega)] at h1
      cases h1
  rw [World.cell?_setCell_other _ _ _ _ (fun e => hne (congrArg Addr.block e).symm)]
  exact hc j hj

/-- What the reader of a slice of integers gives. -/
theorem rowAt_of {w : World} {a : Option Addr} {len cap : Nat} {zs : List Int}
    (hn : a = none → cap = 0) (hl : len ≤ cap) (hz : zs.length = cap) (hc : ∀ x, a = some x → ∀ i, i < cap → w.cell? (x.add i) = some (.int .u8 (zs.getD i 0))) : RowAt w a (zs.take len) := by
  by_cases h0 : len = 0
  · subst h0; simpa using RowAt.nil w a
  cases a with
  | none => have := hn rfl; omega
  | some x =>
    obtain ⟨b, o, spot⟩ := x
    have hc0 := hc _ rfl 0 (by omega)
    have hspot : spot = none := by simpa [Addr.add] using World.cell?_spot hc0
    subst hspot
    refine ⟨b, o, fun _ => rfl, fun i hi => ?_⟩
    have hi' : i < len := by simp at hi; omega
    have h := hc _ rfl i (by omega)
    have hg : (zs.take len).getD i 0 = zs.getD i 0 := by simp [List.getElem?_take_of_lt hi']
    rw [hg]
    by_cases hi0 : i = 0
    · subst hi0; simpa [Addr.add] using h
    · simpa [Addr.add, hi0] using h

theorem bytes_take {zs : List Int} {len : Nat} (h : ∀ n ∈ zs, (Lit.int .u8 n).wf = true) : ∀ n ∈ zs.take len, 0 ≤ n ∧ n ≤ 255 :=
  fun n hn => bounds_u8 (h n (List.mem_of_mem_take hn))

/-- 'every number is a byte' -/
def Bytes (zs : List Int) : Prop := ∀ i, i < zs.length → 0 ≤ zs.getD i 0 ∧ zs.getD i 0 ≤ 255

theorem bytes_of_mem {zs : List Int} (h : ∀ n ∈ zs, 0 ≤ n ∧ n ≤ 255) : Bytes zs := fun i hi => by
  have : zs.getD i 0 ∈ zs := by
    rw [List.getD_eq_getElem?_getD, List.getElem?_eq_getElem hi]
    exact List.getElem_mem _
  exact h _ this

/-- What the reader of a slice of slices of bytes gives. -/
theorem rowsAt_of {w : World} {x : Addr} {len cap : Nat} {A : Nat → Option Addr} {L C : Nat → Nat} {Z : Nat → List Int} (hl : len ≤ cap)
    (h : ∀ r, r < cap → w.cell? (x.add r) = some (.slice (A r) (L r) (C r)) ∧ L r ≤ C r ∧ C r ≤ maxLen ∧ (Z r).length = C r ∧ (∀ n ∈ Z r, (Lit.int .u8 n).wf = true) ∧ (A r = none → C r = 0) ∧
        ∀ a', A r = some a' → 0 ≤ a'.block ∧ ∀ c, c < C r → w.cell? (a'.add c) = some (.int .u8 ((Z r).getD c 0))) :
    ∃ R : List (List Int), R.length = len ∧ RowsAt w (some x) R ∧ ∀ r, r < R.length → Bytes (R.getD r []) := by
  refine ⟨(List.range len).map fun r => (Z r).take (L r), by simp, ?_, ?_⟩
  · by_cases h0 : len = 0
    · subst h0; simpa using RowsAt.nil w (some x)
    · obtain ⟨b, o, spot⟩ := x
      have hc0 := (h 0 (by omega)).1
      have hspot : spot = none := by simpa [Addr.add] using World.cell?_spot hc0
      subst hspot
      refine ⟨b, o, fun _ => rfl, fun r hr => ?_⟩
      have hr' : r < len := by simpa using hr
      obtain ⟨h1, h2, h3, h4, h5, h6, h7⟩ := h r (by omega)
      have hg : ((List.range len).map fun r => (Z r).take (L r)).getD r [] = (Z r).take (L r) := by simp [hr']
      rw [hg]
      have hlen : ((Z r).take (L r)).length = L r := by simp; omega
      rw [hlen]
      refine ⟨A r, C r, ?_, rowAt_of h6 h2 h4 (fun a' ha' => (h7 a' ha').2), fun hn => ⟨by have := h6 hn; omega, h6 hn⟩⟩
      by_cases hr0 : r = 0
      · subst hr0; simpa [Addr.add] using h1
      · simpa [Addr.add, hr0] using h1
  · intro r hr
    have hr' : r < len := by simpa using hr
    have hg : ((List.range len).map fun r => (Z r).take (L r)).getD r [] = (Z r).take (L r) := by simp [hr']
    rw [hg]
    exact bytes_of_mem (bytes_take (h r (by omega)).2.2.2.2.1)

end Go.Proofs.Qxb6609030a
