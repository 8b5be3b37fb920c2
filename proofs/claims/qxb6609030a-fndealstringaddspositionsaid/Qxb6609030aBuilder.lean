/-
  strings.Builder's three functions on the road (copyCheck 28, WriteByte 25, String 27), by contracts, over this program.
  copyCheck and WriteByte: after the shelf's own walks (Derived/Shelf/Strings/Builder1.lean), turned to this program's numbers (this program's copyCheck bears a refused statement on a way that is not taken, so the shelf's contract is not laid there). String: the shelf's contract, laid at this program in plain words (by the shelf's own tools).
-/
import Derived.Test.Qxb6609030aRows
import Derived.Shelf.Strings.Builder1
import Derived.Lib.Strings
import Derived.Lib.Slices
import Derived.Lib.Walk
import Derived.Lib.Builder
import Derived.Lib.AppendStr
import Derived.WalkKit
import Derived.ProofKit
import Derived.Laws.Externs
namespace Go.Proofs.Qxb6609030a.Builder
open Go.RowKit
set_option linter.unusedVariables false

theorem size47 : (Try.prog.info? 47).map (·.size) = some 2 := by kernel_rfl
theorem lies47 : liesAt Try.prog Try.prog.depth 47 (2 / Try.prog.cellsOf 47) 0 47 1 = true := by kernel_rfl
theorem info5 : (Try.prog.info? 5).map (fun i => (i.zero, i.size, i.bytes)) = some (some (.int .u8 0), 1, 1) := by kernel_rfl

/-- The builder's pointer, turned to the untyped pointer: the address as it is. -/
theorem to_ptr (w : World) (a : Addr) (hsh : w.shape? a.block = some (47, 2)) (hoff : a.off < 2) :
    (convert 45 53 (.pointer (some a))).run Try.prog w = .ok (.pointer (some a)) w := by
  obtain ⟨j, hj, hjs⟩ := Option.map_eq_some_iff.1 size47
  have hj0 : j.size ≠ 0 := by rw [hjs]; decide
  simp only [convert, run_underlying Try.underlying45, run_underlying Try.underlying53, Sem.run_bind, Result.andThen]
  show Sem.run Try.prog (bind _ _) w = _
  simp [run_underlying Try.underlying45, run_underlying Try.underlying53, Conv.seenAt, viewAt, cellsIn, hsh, sizeOf, typeInfo, hj, hj0]
  intro h
  omega

/-- .. and back. -/
theorem from_ptr (w : World) (a : Addr) (hsh : w.shape? a.block = some (47, 2)) (hoff : a.off = 0) :
    (convert 53 45 (.pointer (some a))).run Try.prog w = .ok (.pointer (some a)) w := by
  obtain ⟨j, hj, hjs⟩ := Option.map_eq_some_iff.1 size47
  have hl : liesAt Try.prog Try.prog.depth 47 (2 / Try.prog.cellsOf 47) a.off 47 1 = true := by rw [hoff]; exact lies47
  simp only [convert, run_underlying Try.underlying45, run_underlying Try.underlying53, Sem.run_bind, Result.andThen]
  show Sem.run Try.prog (bind _ _) w = _
  simp [run_underlying Try.underlying45, run_underlying Try.underlying53, Conv.seenAt, viewAt, hsh, variablesAt, hl, sizeOf, typeInfo, hj]

set_option maxHeartbeats 1000000 in
set_option maxRecDepth 100000 in
theorem copyCheck_used (b : Nat) (w : World) (h0 : w.cell? ⟨b, 0, none⟩ = some (.pointer (some ⟨b, 0, none⟩))) :
    Calls Try.prog 28 #[.pointer (some ⟨b, 0, none⟩)] w fun e w' => e = .returned (.tuple #[]) ∧ w' = w := by
  obtain ⟨j, hj, _⟩ := Option.map_eq_some_iff.1 size47
  go_enter Try.func28, Try.ntmps28
  go_wp2
  rw [Lib.run_neq_ptr_same w _ Try.underlying45 hj]
  go_wp2
  go_end0
  exact ⟨rfl, rfl⟩

set_option maxHeartbeats 1000000 in
set_option maxRecDepth 100000 in
theorem copyCheck_fresh (b : Nat) (w : World) (h0 : w.cell? ⟨b, 0, none⟩ = some (.pointer none)) (hsh : w.shape? b = some (47, 2)) (hfz : w.frozen? ⟨b, 0, none⟩ = false) :
    Calls Try.prog 28 #[.pointer (some ⟨b, 0, none⟩)] w fun e w' => e = .returned (.tuple #[]) ∧ w' = w.setCell ⟨b, 0, none⟩ (.pointer (some ⟨b, 0, none⟩)) := by
  go_enter Try.func28, Try.ntmps28
  go_wp2
  rw [to_ptr w ⟨b, 0, none⟩ hsh (Nat.zero_lt_succ 1)]
  simp only [Result.andThen]
  rw [Oper.upon_value]
  go_wp2
  rw [run_callFunc_extern Try.func29 (by kernel_rfl) (by kernel_rfl) (by kernel_rfl) (e := Extern.AbiNoEscape.same) (by kernel_rfl)]
  rw [Lib.run_noEscape]
  simp only [Result.andThen]
  rw [Oper.upon_value]
  go_wp2
  rw [from_ptr w ⟨b, 0, none⟩ hsh rfl]
  simp only [Result.andThen]
  rw [Oper.upon_value]
  go_wp2
  go_end0
  exact ⟨rfl, rfl⟩

theorem copyCheck_any (B b : Nat) (bs : List Value) (w : World) (h : Lib.IsBuilder 47 5 B b bs w) :
    Calls Try.prog 28 #[.pointer (some ⟨b, 0, none⟩)] w fun e w' => e = .returned (.tuple #[]) ∧ (Lib.BuilderAt 47 5 B b (.pointer (some ⟨b, 0, none⟩)) bs w' ∧ Below B w w') := by
  rcases h with h | h
  · refine (copyCheck_fresh b w h.cell0 h.shape h.frozen0).mono ?_
    rintro e w' ⟨rfl, rfl⟩
    exact ⟨rfl, h.used _, (Below.refl B w).setCell (p := ⟨b, 0, none⟩) h.1 _⟩
  · refine (copyCheck_used b w h.cell0).mono ?_
    rintro e w' ⟨rfl, rfl⟩
    exact ⟨rfl, h, Below.refl B _⟩

set_option maxHeartbeats 2000000 in
set_option maxRecDepth 100000 in
theorem writeByte_any (B b : Nat) (bs : List Value) (c : Int) (w : World) (h : Lib.IsBuilder 47 5 B b bs w) (hlen : bs.length + 1 ≤ 140737488355328) (hBw : B ≤ w.heap.size) :
    Calls Try.prog 25 #[.pointer (some ⟨b, 0, none⟩), .int .u8 c] w fun e w' => e = .returned .nilIface ∧ (Lib.BuilderAt 47 5 B b (.pointer (some ⟨b, 0, none⟩)) (bs ++ [.int .u8 c]) w' ∧ Below B w w') := by
  obtain ⟨i0, hi, hz0, hz1, hz2⟩ := info_parts info5
  go_enter Try.func25, Try.ntmps25
  go_wp2_with (go_at_call 28; refine (copyCheck_any B b bs _ h).mono ?_)
  rintro e w1 ⟨rfl, h1, hb1⟩
  obtain ⟨hB, v, hbk, hown, hne⟩ := h1
  have c0 : w1.cell? ⟨b, 0, none⟩ = some (.pointer (some ⟨b, 0, none⟩)) := by rw [Lib.cell_of_heap hbk]; rfl
  have c1 : w1.cell? ⟨b, 1, none⟩ = some v := by rw [Lib.cell_of_heap hbk]; rfl
  go_wp2_with (at_builtin; refine wpList_append_own _ rfl _ _ 28 rfl B 5 i0 (.int .u8 0) 1 1 Try.underlying28 hi hz0 hz1 hz2 rfl (by decide) _ _ _ rfl (hown.alloc _) ⟨w1.heap.size, 0, none⟩ 1 1 [.int .u8 c] rfl rfl ?c1 ?c2 ?c3 ?c4 ?c5 ?_)
  case c1 =>
    intro j u hj
    match j, hj with
    | 0, hj => simp at hj; subst hj; simp [Addr.add]
  case c2 => intro u hu; simp at hu; subst hu; rfl
  case c3 => unfold maxLen; omega
  case c4 => omega
  case c5 => have := hb1.size; simp; omega
  intro v' w2 hown' hgrow _
  have hlt : b < w1.heap.size := by
    rcases Nat.lt_or_ge b w1.heap.size with h' | h'
    · exact h'
    · simp [Array.getElem?_eq_none h'] at hbk
  have hb2 : w2.heap[b]? = some (.cells #[.pointer (some ⟨b, 0, none⟩), v] 47 (0, 0)) := by
    rw [hgrow.block b (by simp; omega) (fun e => hne e.symm), Lib.alloc_old w1 _ b hlt]
    exact hbk
  have d0 : w2.cell? ⟨b, 0, none⟩ = some (.pointer (some ⟨b, 0, none⟩)) := by rw [Lib.cell_of_heap hb2]; rfl
  have d1 : w2.cell? ⟨b, 1, none⟩ = some v := by rw [Lib.cell_of_heap hb2]; rfl
  have f1 : w2.frozen? ⟨b, 1, none⟩ = false := Lib.frozen_of_heap hb2 1
  obtain ⟨g, cap, rfl⟩ : ∃ g cap, v' = .slice (some ⟨g, 0, none⟩) (bs.length + 1) cap := by
    rcases hown'.2 with ⟨_, h0⟩ | ⟨g, cap, cur, hv, _⟩
    · omega
    · exact ⟨g, cap, hv⟩
  go_wp2
  go_ret
  refine ⟨rfl, ?_, ?_⟩
  · exact Lib.BuilderAt.put (T := 47) (e := 5) hB hb2 (bs' := bs ++ [.int .u8 c]) (by simpa using hown') (by decide)
  · exact ((hb1.alloc (by have := hb1.size; omega) _).grown hgrow (by have := hb1.size; simp; omega) (fun k hk => (hown.lt k hk).1)).setCell (p := ⟨b, 1, none⟩) hB _

/-! ### String: the shelf's contract, laid here -/
def lays169_ren : Go.Shelf.Ren := ⟨fun | 169 => 27 | n => n, fun | 70 => 45 | 9 => 9 | 0 => 0 | 72 => 47 | 37 => 28 | 127 => 52 | 3 => 3 | 5 => 5 | n => n, fun | n => n⟩
theorem lays169 : Go.Proofs.Lays.n169 Try.prog lays169_ren := {
  mixed := by kernel_rfl
  f169 := Try.func27.trans (congrArg some (by kernel_rfl))
  t0 := Try.underlying0
  a0 := Try.isAgg0
  z0 := Try.sizeOf0
  v0 := Try.zeroValue0
  t3 := Try.underlying3
  a3 := Try.isAgg3
  z3 := Try.sizeOf3
  v3 := Try.zeroValue3
  t9 := Try.underlying9
  a9 := Try.isAgg9
  z9 := Try.sizeOf9
  v9 := Try.zeroValue9
  t37 := Try.underlying28
  a37 := Try.isAgg28
  z37 := Try.sizeOf28
  v37 := Try.zeroValue28
  t70 := Try.underlying45
  a70 := Try.isAgg45
  z70 := Try.sizeOf45
  v70 := Try.zeroValue45
  t72 := Try.underlying47
  a72 := Try.isAgg47
  z72 := Try.sizeOf47
  v72 := Try.zeroValue47
  t127 := Try.underlying52
  a127 := Try.isAgg52
  z127 := Try.sizeOf52
  v127 := Try.zeroValue52 }
theorem extra169 : Go.Proofs.Builder.Extra Try.prog lays169_ren := {
  sizeBuilder := by kernel_rfl
  liesBuilder := by kernel_rfl
  t5 := Try.underlying5
  a5 := Try.isAgg5
  z5 := Try.sizeOf5
  v5 := Try.zeroValue5
  infoByte := by kernel_rfl
  cellsByte := by kernel_rfl
  sizeByte := by kernel_rfl
  neB5 := by decide }

/-- String, whatever the builder holds. -/
theorem string_any (B b : Nat) (l : List UInt8) (w : World) (hBw : B ≤ w.heap.size) (h : Lib.IsBuilder 47 5 B b (Lib.byteCells l) w) :
    Calls Try.prog 27 #[.pointer (some ⟨b, 0, none⟩)] w fun e w' => e = .returned (.string ⟨l.toArray⟩) ∧ Below B w w' :=
  Any.Builder_String_any lays169 extra169 B b l w h hBw

end Go.Proofs.Qxb6609030a.Builder
