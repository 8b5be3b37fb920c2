/-
  The plain law of FnOpensMultiLineAtOffsetCutAndShifted: no walk.
-/
import Derived.Test.Qxb6614697aZz
import Derived.Test.Qxb6614697aSrc
import Derived.Laws.CopyOwn
import Derived.Laws.BytesString
namespace Go.Proofs.Qxb6614697a.Shift
open Go.Proofs.Qxb6614697a.Opens Go.Proofs.Qxb6614697a.Src

/-- What the joined text holds at offset i: the prefix, then the data. -/
def cont (lp : Nat) (zp zd : List Int) (i : Nat) : Int := if i < lp then zp.getD i 0 else zd.getD (i - lp) 0

theorem cont_p {lp : Nat} {zp zd : List Int} {k : Nat} (h : k < lp) : zp.getD k 0 = cont lp zp zd k := by unfold cont; rw [if_pos h]
theorem cont_d {lp : Nat} {zp zd : List Int} {k : Nat} : zd.getD k 0 = cont lp zp zd (lp + k) := by unfold cont; rw [if_neg (by omega), show lp + k - lp = k by omega]

theorem opens_cut (n p : Nat) (f : Nat → Int) : opens (n - p) (fun i => f (p + i)) 0 = opens n f p := by
  unfold opens
  simp only [Nat.zero_add, Nat.add_zero]
  congr 1
  by_cases h : p + 2 < n
  · rw [decide_eq_true h, decide_eq_true (show 2 < n - p by omega)]
  · rw [decide_eq_false h, decide_eq_false (show ¬ 2 < n - p by omega)]

theorem opens_shift (lp n p : Nat) (zp zd : List Int) : opens (lp + n) (cont lp zp zd) (lp + p) = opens n (fun i => zd.getD i 0) p := by
  unfold opens
  have e0 : cont lp zp zd (lp + p) = zd.getD p 0 := cont_d.symm
  have e1 : cont lp zp zd (lp + p + 1) = zd.getD (p + 1) 0 := by rw [Nat.add_assoc]; exact cont_d.symm
  have e2 : cont lp zp zd (lp + p + 2) = zd.getD (p + 2) 0 := by rw [Nat.add_assoc]; exact cont_d.symm
  rw [e0, e1, e2]
  congr 1
  by_cases h : p + 2 < n
  · rw [decide_eq_true h, decide_eq_true (show lp + p + 2 < lp + n by omega)]
  · rw [decide_eq_false h, decide_eq_false (show ¬ lp + p + 2 < lp + n by omega)]

/-- The copy of a slice of bytes: behind 'copy' the new row holds what the slice held. -/
theorem copied {w : World} {g n : Nat} {zs : List Int} (hz : n ≤ zs.length)
    (h : w.heap[g]? = some (.cells (splice (madeCells #[.int .u8 0] n).toList 0 ((zs.take n).map (Value.int .u8))).toArray 5 (0, 0))) :
    w.rowIs g 5 n (fun i => .int .u8 (zs.getD i 0)) := by
  have hl : ((zs.take n).map (Value.int .u8)).length = n := by simp; omega
  have hd : (madeCells #[Value.int .u8 0] n).toList.drop (0 + ((zs.take n).map (Value.int .u8)).length) = [] := by
    apply List.drop_eq_nil_of_le
    rw [hl, Array.length_toList, size_madeCells]
    simp
  have es : splice (madeCells #[Value.int .u8 0] n).toList 0 ((zs.take n).map (Value.int .u8)) = (zs.take n).map (Value.int .u8) := by
    unfold splice; rw [hd]; simp only [List.take_zero, List.nil_append, List.append_nil]
  rw [es] at h
  refine ⟨_, h, by rw [List.size_toArray]; exact hl, fun i hi => ?_⟩
  rw [List.getElem?_toArray, List.getElem?_map, List.getElem?_take_of_lt hi, List.getElem?_eq_getElem (show i < zs.length by omega)]
  simp [List.getElem?_eq_getElem (show i < zs.length by omega)]

theorem size5 : (Try.prog.info? 5).map (·.size) = some 1 := by kernel_rfl

open Go.RowKit in
/-- 'copy(zzc, data)', zzc just made. -/
theorem copy_run (w : World) (x0 : Addr) (b0 o0 len0 cap0 : Nat) (z0 : List Int) (ha0 : 0 < len0 → some x0 = some ⟨b0, o0, none⟩)
    (hc0 : ∀ i, i < len0 → w.cell? ⟨b0, o0 + i, none⟩ = some (.int .u8 (z0.getD i 0))) (hz0 : len0 ≤ z0.length) :
    ∃ w2, (Builtin.copy_ #[22, 22] 3 #[.slice (some ⟨w.heap.size, 0, none⟩) len0 len0, .slice (some x0) len0 cap0]).run Try.prog (w.alloc (.cells (madeCells #[.int .u8 0] len0) 5)) = .ok (.int .i64 len0) w2 ∧
      w2.rowIs w.heap.size 5 len0 (fun i => .int .u8 (z0.getD i 0)) ∧ Below w.heap.size w w2 := by
  by_cases h0 : len0 = 0
  · subst h0
    refine ⟨_, run_copy_none _ 22 22 3 5 _ _ _ _ _ _ Try.underlying22 size5 rfl, ?_, (Below.refl _ _).alloc (Nat.le_refl _) _⟩
    exact (World.rowIs_made w _ 0 5).congr (fun i hi => absurd hi (by omega))
  · have hx := ha0 (by omega)
    simp only [Option.some.injEq] at hx
    subst hx
    have hl : ((z0.take len0).map (Value.int .u8)).length = len0 := by simp; omega
    have hg : (w.alloc (.cells (madeCells #[Value.int .u8 0] len0) 5)).heap[w.heap.size]? = some (.cells (madeCells #[Value.int .u8 0] len0) 5 (0, 0)) := heap_alloc_new w _
    have hr := run_copy_row (P := Try.prog) (w.alloc (.cells (madeCells #[.int .u8 0] len0) 5)) 22 22 3 5 w.heap.size 0 len0 len0 ⟨b0, o0, none⟩ len0 cap0 (madeCells #[.int .u8 0] len0) 5 ((z0.take len0).map (Value.int .u8))
      Try.underlying22 size5 hg (by rw [hl]; simp) ?_ (by rw [hl, size_madeCells]; simp) ?_
    · rw [hl] at hr
      refine ⟨_, hr, copied hz0 ?_, below_setRow ((Below.refl _ _).alloc (Nat.le_refl _) _) (Nat.le_refl _) _⟩
      rw [setRow_heap _ _ _ _ _ _ hg]
      simp only [splice, hl, List.append_assoc]
    · intro j v hj
      have hjl : j < len0 := by
        have := (List.getElem?_eq_some_iff.1 hj).1
        omega
      rw [List.getElem?_map, List.getElem?_take_of_lt hjl, List.getElem?_eq_getElem (show j < z0.length by omega)] at hj
      simp only [Option.map_some, Option.some.injEq] at hj
      subst hj
      have hb := block_lt_of_cell (hc0 j hjl)
      have hcj := hc0 j hjl
      rw [List.getD_eq_getElem?_getD, List.getElem?_eq_getElem (show j < z0.length by omega)] at hcj
      have hadd : (Addr.mk b0 o0 none).add j = ⟨b0, o0 + j, none⟩ := by
        by_cases hj0 : j = 0
        · subst hj0; simp [Addr.add]
        · simp [Addr.add, hj0]
      rw [hadd, World.cell?_alloc_past _ _ _ hb]
      exact hcj
    · intro v hv
      simp only [List.mem_map] at hv
      obtain ⟨n, _, rfl⟩ := hv
      rfl

/-- 'string(data[pos : pos+3])' -/
theorem conv3 (w : World) (b p cap : Nat) (x y z : Int) (hx : w.cell? ⟨b, p, none⟩ = some (.int .u8 x)) (hy : w.cell? ⟨b, p + 1, none⟩ = some (.int .u8 y)) (hz : w.cell? ⟨b, p + 2, none⟩ = some (.int .u8 z)) :
    (convert 22 9 (.slice (some ⟨b, p, none⟩) 3 cap)).run Try.prog w = .ok (.string ⟨#[UInt8.ofNat x.toNat, UInt8.ofNat y.toNat, UInt8.ofNat z.toNat]⟩) w := by
  rw [run_convert_bytes_string w 22 9 5 _ _ _ Try.underlying22 Try.underlying5 Try.underlying9]
  rw [run_bytesToString w ⟨b, p, none⟩ 3 cap [x, y, z]]
  · rfl
  · refine run_loadCells_list (P := Try.prog) w ⟨b, p, none⟩ [.int .u8 x, .int .u8 y, .int .u8 z] ?_
    intro j v hj
    match j, hj with
    | 0, hj => simp at hj; subst hj; simpa [Addr.add] using hx
    | 1, hj => simp at hj; subst hj; simpa [Addr.add] using hy
    | 2, hj => simp at hj; subst hj; simpa [Addr.add] using hz

theorem byte_beq (x : Int) (q : Nat) (h0 : 0 ≤ x) (h1 : x ≤ 255) (hq : q < 256) : (UInt8.ofNat x.toNat == UInt8.ofNat q) = (x == (q : Int)) := by
  rw [Bool.eq_iff_iff]
  simp only [beq_iff_eq]
  constructor
  · intro h
    have h2 : (UInt8.ofNat x.toNat).toNat = (UInt8.ofNat q).toNat := by rw [h]
    rw [UInt8.toNat_ofNat', UInt8.toNat_ofNat'] at h2
    omega
  · intro h
    rw [h]
    simp

/-- What the three bytes' text says. -/
theorem text3 (x y z : Int) (hx : 0 ≤ x ∧ x ≤ 255) (hy : 0 ≤ y ∧ y ≤ 255) (hz : 0 ≤ z ∧ z ≤ 255) :
    three x y z = (((⟨#[UInt8.ofNat x.toNat, UInt8.ofNat y.toNat, UInt8.ofNat z.toNat]⟩ : ByteArray).toList == [34, 34, 34]) || ((⟨#[UInt8.ofNat x.toNat, UInt8.ofNat y.toNat, UInt8.ofNat z.toNat]⟩ : ByteArray).toList == [39, 39, 39])) := by
  rw [ByteArray.toList_eq]
  have a1 := byte_beq x 34 hx.1 hx.2 (by omega)
  have a2 := byte_beq y 34 hy.1 hy.2 (by omega)
  have a3 := byte_beq z 34 hz.1 hz.2 (by omega)
  have b1 := byte_beq x 39 hx.1 hx.2 (by omega)
  have b2 := byte_beq y 39 hy.1 hy.2 (by omega)
  have b3 := byte_beq z 39 hz.1 hz.2 (by omega)
  have e1 : ([UInt8.ofNat x.toNat, UInt8.ofNat y.toNat, UInt8.ofNat z.toNat] == [34, 34, 34]) = (x == 34 && (y == 34 && (z == 34 && true))) := by
    rw [← show (x == 34) = (x == ((34 : Nat) : Int)) from rfl] at a1
    rw [← show (y == 34) = (y == ((34 : Nat) : Int)) from rfl] at a2
    rw [← show (z == 34) = (z == ((34 : Nat) : Int)) from rfl] at a3
    rw [← a1, ← a2, ← a3]; rfl
  have e2 : ([UInt8.ofNat x.toNat, UInt8.ofNat y.toNat, UInt8.ofNat z.toNat] == [39, 39, 39]) = (x == 39 && (y == 39 && (z == 39 && true))) := by
    rw [← show (x == 39) = (x == ((39 : Nat) : Int)) from rfl] at b1
    rw [← show (y == 39) = (y == ((39 : Nat) : Int)) from rfl] at b2
    rw [← show (z == 39) = (z == ((39 : Nat) : Int)) from rfl] at b3
    rw [← b1, ← b2, ← b3]; rfl
  show three x y z = (([UInt8.ofNat x.toNat, UInt8.ofNat y.toNat, UInt8.ofNat z.toNat] == [34, 34, 34]) || ([UInt8.ofNat x.toNat, UInt8.ofNat y.toNat, UInt8.ofNat z.toNat] == [39, 39, 39]))
  rw [e1, e2, Bool.eq_iff_iff]
  simp [three]
  omega

end Go.Proofs.Qxb6614697a.Shift
