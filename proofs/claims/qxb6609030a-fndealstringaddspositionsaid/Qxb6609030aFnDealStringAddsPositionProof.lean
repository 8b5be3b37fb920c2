/-
  A proof of the given statement: the guide's frame for slices, two of the arguments slices of slices of bytes; the walk: PosWalk.
-/
import Derived.Test.Qxb6609030aRows
import Derived.WalkKit
import Derived.ProofKit
import Derived.OpenShut
import Derived.ShutString
import Derived.ChangeOld
import Derived.Below
import Derived.Deep.Matrix
import Derived.Test.Qxb6609030aPosWalk
namespace Go.Proofs.Qxb6609030a.fnDealStringAddsPosition
open Go.ChangeShapes Go.WideShapes Go.ChangeAt Go.RowKit
set_option linter.unusedVariables false

theorem own : ownKnob Try.prog.godebug = none := by kernel_rfl
theorem laidOut : laidOutB Try.prog = true := by kernel_rfl
theorem cells28 : Try.prog.cellsOf 28 = 1 := by kernel_rfl
theorem cells5 : Try.prog.cellsOf 5 = 1 := by kernel_rfl

/-- What the walk is told of a slice of slices of bytes that came in. -/
theorem rows_in {H : Type} {enc : TypeId × Value → H} {W : World} {a : Option Addr} {len cap : Nat} {d : DataW H} {ps : List MemPlace}
    (h : DataW.Trod enc Try.prog W 0 (fun _ => true) true 27 (.slice a len cap) d ps) :
    ∃ R : List (List Int), R.length = len ∧ RowsAt W a R ∧ (a = none → R.length = 0 ∧ cap = 0) ∧ ∀ r, r < R.length → Bytes (R.getD r []) := by
  obtain ⟨fuel, hf⟩ := h
  rcases Go.Deep.open_int_rows Try.underlying27 Try.underlying28 Try.underlying5 cells28 cells5 hf with ⟨hcs, _⟩ | ⟨x, l, c, A, L, C, Z, hcs, _, hl, hm, _, hx⟩
  · simp [Value.cells] at hcs
    obtain ⟨rfl, rfl, rfl⟩ := hcs
    exact ⟨[], rfl, RowsAt.nil _ _, fun _ => ⟨rfl, rfl⟩, fun r hr => absurd hr (by simp)⟩
  · simp [Value.cells] at hcs
    obtain ⟨rfl, rfl, rfl⟩ := hcs
    obtain ⟨R, hR, hA, hB⟩ := rowsAt_of hl hx
    exact ⟨R, hR, hA, (fun h => by cases h), hB⟩

/-- .. of a slice of bytes. -/
theorem row_in {H : Type} {enc : TypeId × Value → H} {W : World} {a : Option Addr} {len cap : Nat} {d : DataW H} {ps : List MemPlace}
    (h : DataW.Trod enc Try.prog W 0 (fun _ => true) true 28 (.slice a len cap) d ps) :
    ∃ zs : List Int, zs.length = len ∧ RowAt W a zs ∧ (a = none → zs.length = 0 ∧ cap = 0) ∧ Bytes zs := by
  obtain ⟨fuel, hf⟩ := h
  rcases open_ints Try.underlying28 Try.underlying5 cells5 hf with ⟨hcs, _⟩ | ⟨x, l, c, zs, hcs, _, hl, hm, hz, _, hcell, hwz⟩
  · simp [Value.cells] at hcs
    obtain ⟨rfl, rfl, rfl⟩ := hcs
    exact ⟨[], rfl, RowAt.nil _ _, fun _ => ⟨rfl, rfl⟩, fun r hr => absurd hr (by simp)⟩
  · simp [Value.cells] at hcs
    obtain ⟨rfl, rfl, rfl⟩ := hcs
    have hz' : zs.length = cap := by simpa using hz
    refine ⟨zs.take len, by simp; omega, rowAt_of (fun h => by cases h) hl hz' (fun y hy i hi => ?_), (fun h => by cases h), bytes_of_mem (bytes_take hwz)⟩
    simp only [Option.some.injEq] at hy
    subst hy
    exact hcell i (by omega)

set_option maxRecDepth 100000 in
theorem lifted (os : Os) (started : os.Started) (H : Type) (enc : TypeId × Value → H) :
    ReturnsInHanded {} Try.checked os 6 .any (Rows.fnDealStringAddsPositionSpec.pre6 enc Try.prog Try.f6 Rows.fnDealStringAddsPositionRow.domain false) (Rows.fnDealStringAddsPositionSpec.post enc Try.prog Try.f6 false true false false) := by
  refine returnsInHanded_of_change (C := Try.checked) own started (by kernel_rfl) Try.func6
    (ChangeSpec.witness6 (enc := enc) (C := Try.checked) false ⟨#[], #[.slice none 0 0, .slice none 0 0, .slice none 0 0], []⟩ 8 (by kernel_rfl) (by kernel_rfl) (by kernel_rfl) (by kernel_rfl)) ?_
  intro W base args ds gs before hval0 hW hcnd _
  have hval : ∀ (j : Nat) t v, Try.f6.params[j]? = some t → args[j]? = some v → Value.okWide Try.prog W .any base t v := hval0
  have hW' := hW
  obtain ⟨p, q, hA0, hV, rfl, hfz, hnd⟩ := hW
  have hA : DataW.TrodAll enc Try.prog W 0 (fun _ => true) true Try.f6.params.toList args.toList ds p := hA0
  rw [Try.params6] at hA hval
  obtain ⟨v0, vs0, d0, ds0, p0, q0, hargs, rfl, rfl, h0, r0⟩ := trodAll_cons hA
  obtain ⟨v1, vs1, d1, ds1, p1, q1, rfl, rfl, rfl, h1, r1⟩ := trodAll_cons r0
  obtain ⟨v2, vs2, d2, ds2, p2, q2, rfl, rfl, rfl, h2, r2⟩ := trodAll_cons r1
  obtain ⟨rfl, rfl, rfl⟩ := trodAll_nil r2
  obtain rfl : args = #[v0, v1, v2] := by cases args; simp_all
  obtain ⟨rfl, rfl⟩ := trodVars_none hV
  obtain ⟨a0, len0, cap0, rfl⟩ := okWide_slice Try.underlying27 (hval 0 27 v0 rfl rfl)
  have k0 := h0
  have lt0 : ∀ x ∈ p0, x.block < W.heap.size := by obtain ⟨m, hm⟩ := k0; exact DataW.trod_lt m _ _ _ hm
  obtain ⟨R0, rfl, e0, n0, b0⟩ := rows_in h0
  obtain ⟨a1, len1, cap1, rfl⟩ := okWide_slice Try.underlying27 (hval 1 27 v1 rfl rfl)
  have k1 := h1
  have lt1 : ∀ x ∈ p1, x.block < W.heap.size := by obtain ⟨m, hm⟩ := k1; exact DataW.trod_lt m _ _ _ hm
  obtain ⟨R1, rfl, e1, n1, b1⟩ := rows_in h1
  obtain ⟨a2, len2, cap2, rfl⟩ := okWide_slice Try.underlying28 (hval 2 28 v2 rfl rfl)
  have k2 := h2
  have lt2 : ∀ x ∈ p2, x.block < W.heap.size := by obtain ⟨m, hm⟩ := k2; exact DataW.trod_lt m _ _ _ hm
  obtain ⟨zs, rfl, e2, n2, b2⟩ := row_in h2
  clear hA0 hval0
  refine (PosWalk.pos_walk a0 a1 a2 R0 R1 zs cap0 cap1 cap2 W e0 n0 b0 e1 n1 b1 e2 n2 b2).mono fun e W' ⟨he, bel⟩ => ?_
  subst he
  exact ⟨_, rfl, _, _, _, [], _, [], hW', trodAll_mk1 (shut_bool Try.underlying4 _), (trodAll_cons_mk (Below.trod laidOut (by kernel_rfl) (of_decide_eq_true (by kernel_rfl)) k0 bel lt0) (trodAll_cons_mk (Below.trod laidOut (by kernel_rfl) (of_decide_eq_true (by kernel_rfl)) k1 bel lt1) (trodAll_cons_mk (Below.trod laidOut (by kernel_rfl) (of_decide_eq_true (by kernel_rfl)) k2 bel lt2) trodAll_mk0))), rfl, bel.frame _, fun h => by cases h⟩

theorem over : Rows.fnDealStringAddsPositionRow.holds Try.pinned (OpenSpec.ofChange Rows.fnDealStringAddsPositionSpec) :=
  OpenClaim.holds_of_wide 6 Try.f6 rfl rfl rfl rfl rfl rfl rfl ⟨rfl, rfl, rfl, rfl, rfl⟩ rfl rfl rfl rfl rfl (by kernel_rfl) Try.func6 (by kernel_rfl)
    (of_decide_eq_true (by kernel_rfl)) (by unfold Func.isWrapper; first | (rw [if_pos (by decide +kernel)]; kernel_rfl) | (rw [if_neg (by decide +kernel)]; exact ⟨rfl, rfl⟩))
    (fun os started H enc _ => lifted os started H enc)

/-- THE STATEMENT -/
theorem proved : Rows.FnDealStringAddsPositionSaid :=
  over
end Go.Proofs.Qxb6609030a.fnDealStringAddsPosition
