/-
  The walk of FnOpensMultiLineAtOffsetCutAndShifted (3).
-/
import Derived.Test.Qxb6614697aShift
import Derived.Deep.LoopGhost
import Derived.Deep.Light
import Derived.WalkSpells
import Derived.WalkLawsBesides
namespace Go.Proofs.Qxb6614697a.ShiftWalk
open Go.ChangeShapes Go.WideShapes Go.ChangeAt Go.RowKit
open Go.Proofs.Qxb6614697a.Opens Go.Proofs.Qxb6614697a.Src Go.Proofs.Qxb6614697a.Shift
set_option linter.unusedVariables false

set_option maxHeartbeats 4000000 in
theorem main_far (x0 : Addr) (b0 o0 len0 cap0 : Nat) (z0 : List Int) (p : Nat) (a2 : Option Addr) (b2 o2 len2 cap2 : Nat) (z2 : List Int) (w : World)
    (ha0 : 0 < len0 → some x0 = some ⟨b0, o0, none⟩) (hc0 : ∀ i, i < len0 → w.cell? ⟨b0, o0 + i, none⟩ = some (.int .u8 (z0.getD i 0))) (hz0 : len0 ≤ z0.length)
    (ha2 : 0 < len2 → a2 = some ⟨b2, o2, none⟩) (hc2 : ∀ i, i < len2 → w.cell? ⟨b2, o2 + i, none⟩ = some (.int .u8 (z2.getD i 0)))
    (hT : len0 + len2 ≤ 1048576) (hbd : ∀ i, i < len0 → 0 ≤ z0.getD i 0 ∧ z0.getD i 0 ≤ 255) (hp : p + 3 ≤ len0) :
    Calls Try.prog 3 #[.slice (some x0) len0 cap0, .int .i64 p, .slice a2 len2 cap2] w fun e w' => e = .returned (.bool true) ∧ Below w.heap.size w w' := by
  obtain ⟨w2, hcp, hR, hB2⟩ := copy_run w x0 b0 o0 len0 cap0 z0 ha0 hc0 hz0
  have hmk0 := run_make_row' (P := Try.prog) 22 5 (.int .u8 0) 1 Try.underlying22 info5 rfl .i64 .i64 len0 (by omega) (by omega)
  have hmk := run_make_row' (P := Try.prog) 22 5 (.int .u8 0) 1 Try.underlying22 info5 rfl .i64 .i64 (len2 + len0) (by omega) (by omega)
  have ec : ((len2 + len0 : Nat) : Int) = (len2 : Int) + (len0 : Int) := by omega
  rw [ec] at hmk
  clear ec
  have hne := fun (w : World) => run_neq_slice_nil_any (P := Try.prog) w 22 5 (some x0) len0 cap0 0 0 Try.underlying22
  have e5 : decide (len0 + len2 ≤ 1048576) = true := by simp; omega
  have hpd : decide (len0 < p) = false := by simp; omega
  go_enter Try.func3, Try.ntmps3
  go_wp2_with (go_at_call 5; refine (bytes5 _ _ _ _ _ _ _ _).mono ?_; rintro e w' ⟨rfl, rfl⟩)
  clear hmk0 hmk hcp hne
  have hS0 := stage_made w2 (len2 + len0) (cont len2 z2 z0)
  have hs0 : w.heap.size < w2.heap.size := hR.lt
  have hd2 : ∀ i, i < len0 → w2.cell? ⟨w.heap.size, 0 + i, none⟩ = some (.int .u8 (z0.getD i 0)) := fun i hi => by rw [Nat.zero_add]; exact hR.cell hi
  clear hR
  go_loopg [9] len2 (fun g i wr => ∃ k : Nat, k ≤ len2 ∧ g = len2 - k ∧ i = .int .i64 k ∧ wr.rowIs w2.heap.size 5 (len2 + len0) (stage (cont len2 z2 z0) k) ∧ Below w2.heap.size w2 wr)
  case atStart => exact ⟨0, Nat.zero_le _, rfl, rfl, hS0, (Below.refl _ _).alloc (Nat.le_refl _) _⟩
  case round =>
    obtain ⟨k, hk, rfl, rfl, hS, hB⟩ := hrel
    clear hS0
    by_cases hlt : k < len2
    · obtain rfl := ha2 (by omega)
      have hlz : (k : Int) < (len2 : Int) := by omega
      have hbl := block_lt_of_cell (hc2 k hlt)
      have t1 : wr.cell? ⟨b2, o2 + k, none⟩ = some (.int .u8 (z2.getD k 0)) := (hB.cell (Nat.lt_of_lt_of_le hbl hB2.size)).trans ((hB2.cell hbl).trans (hc2 k hlt))
      have t2 := hS.cell (i := k) (by omega)
      have t3 := hS.frozen k
      go_wp2
      go_roundg (len2 - (k + 1))
      case measure => go_light; omega
      case rel => go_light; exact ⟨k + 1, by omega, rfl, by simp, stage_step hS (cont_p hlt), hB.setCell (Nat.le_refl _) _⟩
    · obtain rfl : len2 = k := by omega
      clear hlt
      go_wp2
      go_loopg [10] len0 (fun g i wx => ∃ k : Nat, k ≤ len0 ∧ g = len0 - k ∧ i = .int .i64 k ∧ wx.rowIs w2.heap.size 5 (len2 + len0) (stage (cont len2 z2 z0) (len2 + k)) ∧ Below w2.heap.size w2 wx)
      case atStart => exact ⟨0, Nat.zero_le _, rfl, rfl, hS, hB⟩
      case round =>
        clear hS hB
        obtain ⟨k, hk, rfl, rfl, hS, hB⟩ := hrel
        by_cases hlt : k < len0
        · have hlz : (k : Int) < (len0 : Int) := by omega
          have t1 : wr.cell? ⟨w.heap.size, k, none⟩ = some (.int .u8 (z0.getD k 0)) := (hB.cell (by exact hs0)).trans (by simpa using hd2 k hlt)
          have t2 := hS.cell (i := len2 + k) (by omega)
          have t3 := hS.frozen (len2 + k)
          go_wp2
          go_roundg (len0 - (k + 1))
          case measure => go_light; omega
          case rel => go_light; exact ⟨k + 1, by omega, rfl, by simp, stage_step hS cont_d, hB.setCell (Nat.le_refl _) _⟩
        · obtain rfl : len0 = k := by omega
          clear hlt
          have hj : ∀ i, i < len2 + len0 → wr.cell? ⟨w2.heap.size, 0 + i, none⟩ = some (.int .u8 (cont len2 z2 z0 i)) := fun i hi => by
            rw [Nat.zero_add, hS.cell hi]; simp [stage, hi]
          have hjs := hS.lt
          clear hS
          have hd : ∀ i, i < len0 → wr.cell? ⟨w.heap.size, 0 + i, none⟩ = some (.int .u8 (z0.getD i 0)) := fun i hi => (hB.cell (by exact hs0)).trans (hd2 i hi)
          have hBw : Below w.heap.size w wr := hB2.trans (hB.mono (Nat.le_of_lt hs0))
          have hws : w.heap.size < wr.heap.size := by have := hB.size; omega
          clear hB hB2 hd2
          obtain ⟨g, hg⟩ : ∃ g, g = opens len0 (fun i => z0.getD i 0) p := ⟨_, rfl⟩
          have H1 : Hid (opens len0 (fun i => z0.getD i 0) p = g) := hg.symm
          have H2 : Hid (opens (len0 - p) (fun i => z0.getD (p + i) 0) 0 = g) := (opens_cut len0 p (fun i => z0.getD i 0)).trans hg.symm
          have H3 : Hid (opens (len2 + len0) (cont len2 z2 z0) (len2 + p) = g) := (opens_shift len2 len0 p z2 z0).trans hg.symm
          clear hg
          go_wp2_with fail
          refine (zz_any _ w.heap.size 0 len0 _ p (fun i => z0.getD i 0) _ (by omega) (by omega) (fun _ => rfl) hd).mono ?_
          rintro e w3 ⟨he, hb3⟩
          rw [H1.out] at he
          subst he
          have hd3 : ∀ i, i < len0 → w3.cell? ⟨w.heap.size, i, none⟩ = some (.int .u8 (z0.getD i 0)) := fun i hi => (hb3.cell (by exact hws)).trans (by simpa using hd i hi)
          have hj3 : ∀ i, i < len2 + len0 → w3.cell? ⟨w2.heap.size, 0 + i, none⟩ = some (.int .u8 (cont len2 z2 z0 i)) := fun i hi => (hb3.cell (by exact hjs)).trans (hj i hi)
          have hw3 : w.heap.size < w3.heap.size := by have := hb3.size; omega
          have hj3s : w2.heap.size < w3.heap.size := by have := hb3.size; omega
          have hBw3 : Below w.heap.size w w3 := hBw.trans (hb3.mono (Nat.le_of_lt hws))
          clear hd hj hws hjs hBw hb3
          go_wp2_with fail
          refine (zz_any _ w.heap.size p (len0 - p) _ 0 (fun i => z0.getD (p + i) 0) _ (by omega) (by omega) (fun _ => rfl) (fun i hi => hd3 (p + i) (by omega))).mono ?_
          rintro e w4 ⟨he, hb4⟩
          rw [H2.out] at he
          subst he
          have hd4 : ∀ i, i < len0 → w4.cell? ⟨w.heap.size, i, none⟩ = some (.int .u8 (z0.getD i 0)) := fun i hi => (hb4.cell (by exact hw3)).trans (hd3 i hi)
          have hj4 : ∀ i, i < len2 + len0 → w4.cell? ⟨w2.heap.size, 0 + i, none⟩ = some (.int .u8 (cont len2 z2 z0 i)) := fun i hi => (hb4.cell (by exact hj3s)).trans (hj3 i hi)
          have hw4 : w.heap.size < w4.heap.size := by have := hb4.size; omega
          have hBw4 : Below w.heap.size w w4 := hBw3.trans (hb4.mono (Nat.le_of_lt hw3))
          clear hd3 hj3 hw3 hj3s hBw3 hb4
          go_wp2_with fail
          refine (zz_any _ w2.heap.size 0 (len2 + len0) _ (len2 + p) (cont len2 z2 z0) _ (by omega) (by omega) (fun _ => rfl) hj4).mono ?_
          rintro e w5 ⟨he, hb5⟩
          rw [H3.out] at he
          subst he
          have hd5 : ∀ i, i < len0 → w5.cell? ⟨w.heap.size, i, none⟩ = some (.int .u8 (z0.getD i 0)) := fun i hi => (hb5.cell (by exact hw4)).trans (hd4 i hi)
          have hBw5 : Below w.heap.size w w5 := hBw4.trans (hb5.mono (Nat.le_of_lt hw4))
          clear hd4 hj4 hw4 hBw4 hb5
          obtain ⟨S, hS⟩ : ∃ S, S = (⟨#[UInt8.ofNat (z0.getD p 0).toNat, UInt8.ofNat (z0.getD (p + 1) 0).toNat, UInt8.ofNat (z0.getD (p + 2) 0).toNat]⟩ : ByteArray) := ⟨_, rfl⟩
          have hcv := conv3 w5 w.heap.size p (len0 - p) _ _ _ (hd5 p (by omega)) (hd5 (p + 1) (by omega)) (hd5 (p + 2) (by omega))
          rw [← hS] at hcv
          have htx := text3 (z0.getD p 0) (z0.getD (p + 1) 0) (z0.getD (p + 2) 0) (hbd p (by omega)) (hbd (p + 1) (by omega)) (hbd (p + 2) (by omega))
          rw [← hS] at htx
          have hgg : g = (S.toList == [34, 34, 34] || S.toList == [39, 39, 39]) := by
            rw [← htx, ← H1.out]; simp [opens, show p + 2 < len0 by omega]
          clear hS htx H1 H2 H3 hd5
          by_cases c1 : (S.toList == [34, 34, 34]) = true
          · obtain rfl : g = true := by rw [hgg, c1]; rfl
            clear hgg
            go_wp2
            go_ret
            exact ⟨rfl, hBw5⟩
          · have c1' : (S.toList == [34, 34, 34]) = false := by simpa using c1
            clear c1
            by_cases c2 : (S.toList == [39, 39, 39]) = true
            · obtain rfl : g = true := by rw [hgg, c2, Bool.or_true]
              clear hgg
              go_wp2
              go_ret
              exact ⟨rfl, hBw5⟩
            · have c2' : (S.toList == [39, 39, 39]) = false := by simpa using c2
              obtain rfl : g = false := by rw [hgg, c1', c2']; rfl
              clear c2 hgg
              go_wp2
              go_ret
              exact ⟨rfl, hBw5⟩

set_option maxHeartbeats 4000000 in
theorem main_near (x0 : Addr) (b0 o0 len0 cap0 : Nat) (z0 : List Int) (p : Nat) (a2 : Option Addr) (b2 o2 len2 cap2 : Nat) (z2 : List Int) (w : World)
    (ha0 : 0 < len0 → some x0 = some ⟨b0, o0, none⟩) (hc0 : ∀ i, i < len0 → w.cell? ⟨b0, o0 + i, none⟩ = some (.int .u8 (z0.getD i 0))) (hz0 : len0 ≤ z0.length)
    (ha2 : 0 < len2 → a2 = some ⟨b2, o2, none⟩) (hc2 : ∀ i, i < len2 → w.cell? ⟨b2, o2 + i, none⟩ = some (.int .u8 (z2.getD i 0)))
    (hT : len0 + len2 ≤ 1048576) (hp : p < len0) (hp3 : len0 < p + 3) :
    Calls Try.prog 3 #[.slice (some x0) len0 cap0, .int .i64 p, .slice a2 len2 cap2] w fun e w' => e = .returned (.bool true) ∧ Below w.heap.size w w' := by
  obtain ⟨w2, hcp, hR, hB2⟩ := copy_run w x0 b0 o0 len0 cap0 z0 ha0 hc0 hz0
  have hmk0 := run_make_row' (P := Try.prog) 22 5 (.int .u8 0) 1 Try.underlying22 info5 rfl .i64 .i64 len0 (by omega) (by omega)
  have hmk := run_make_row' (P := Try.prog) 22 5 (.int .u8 0) 1 Try.underlying22 info5 rfl .i64 .i64 (len2 + len0) (by omega) (by omega)
  have ec : ((len2 + len0 : Nat) : Int) = (len2 : Int) + (len0 : Int) := by omega
  rw [ec] at hmk
  clear ec
  have hne := fun (w : World) => run_neq_slice_nil_any (P := Try.prog) w 22 5 (some x0) len0 cap0 0 0 Try.underlying22
  have e5 : decide (len0 + len2 ≤ 1048576) = true := by simp; omega
  have hpd : decide (len0 < p) = false := by simp; omega
  go_enter Try.func3, Try.ntmps3
  go_wp2_with (go_at_call 5; refine (bytes5 _ _ _ _ _ _ _ _).mono ?_; rintro e w' ⟨rfl, rfl⟩)
  clear hmk0 hmk hcp hne
  have hS0 := stage_made w2 (len2 + len0) (cont len2 z2 z0)
  have hs0 : w.heap.size < w2.heap.size := hR.lt
  have hd2 : ∀ i, i < len0 → w2.cell? ⟨w.heap.size, 0 + i, none⟩ = some (.int .u8 (z0.getD i 0)) := fun i hi => by rw [Nat.zero_add]; exact hR.cell hi
  clear hR
  go_loopg [9] len2 (fun g i wr => ∃ k : Nat, k ≤ len2 ∧ g = len2 - k ∧ i = .int .i64 k ∧ wr.rowIs w2.heap.size 5 (len2 + len0) (stage (cont len2 z2 z0) k) ∧ Below w2.heap.size w2 wr)
  case atStart => exact ⟨0, Nat.zero_le _, rfl, rfl, hS0, (Below.refl _ _).alloc (Nat.le_refl _) _⟩
  case round =>
    obtain ⟨k, hk, rfl, rfl, hS, hB⟩ := hrel
    clear hS0
    by_cases hlt : k < len2
    · obtain rfl := ha2 (by omega)
      have hlz : (k : Int) < (len2 : Int) := by omega
      have hbl := block_lt_of_cell (hc2 k hlt)
      have t1 : wr.cell? ⟨b2, o2 + k, none⟩ = some (.int .u8 (z2.getD k 0)) := (hB.cell (Nat.lt_of_lt_of_le hbl hB2.size)).trans ((hB2.cell hbl).trans (hc2 k hlt))
      have t2 := hS.cell (i := k) (by omega)
      have t3 := hS.frozen k
      go_wp2
      go_roundg (len2 - (k + 1))
      case measure => go_light; omega
      case rel => go_light; exact ⟨k + 1, by omega, rfl, by simp, stage_step hS (cont_p hlt), hB.setCell (Nat.le_refl _) _⟩
    · obtain rfl : len2 = k := by omega
      clear hlt
      go_wp2
      go_loopg [10] len0 (fun g i wx => ∃ k : Nat, k ≤ len0 ∧ g = len0 - k ∧ i = .int .i64 k ∧ wx.rowIs w2.heap.size 5 (len2 + len0) (stage (cont len2 z2 z0) (len2 + k)) ∧ Below w2.heap.size w2 wx)
      case atStart => exact ⟨0, Nat.zero_le _, rfl, rfl, hS, hB⟩
      case round =>
        clear hS hB
        obtain ⟨k, hk, rfl, rfl, hS, hB⟩ := hrel
        by_cases hlt : k < len0
        · have hlz : (k : Int) < (len0 : Int) := by omega
          have t1 : wr.cell? ⟨w.heap.size, k, none⟩ = some (.int .u8 (z0.getD k 0)) := (hB.cell (by exact hs0)).trans (by simpa using hd2 k hlt)
          have t2 := hS.cell (i := len2 + k) (by omega)
          have t3 := hS.frozen (len2 + k)
          go_wp2
          go_roundg (len0 - (k + 1))
          case measure => go_light; omega
          case rel => go_light; exact ⟨k + 1, by omega, rfl, by simp, stage_step hS cont_d, hB.setCell (Nat.le_refl _) _⟩
        · obtain rfl : len0 = k := by omega
          clear hlt
          have hj : ∀ i, i < len2 + len0 → wr.cell? ⟨w2.heap.size, 0 + i, none⟩ = some (.int .u8 (cont len2 z2 z0 i)) := fun i hi => by
            rw [Nat.zero_add, hS.cell hi]; simp [stage, hi]
          have hjs := hS.lt
          clear hS
          have hd : ∀ i, i < len0 → wr.cell? ⟨w.heap.size, 0 + i, none⟩ = some (.int .u8 (z0.getD i 0)) := fun i hi => (hB.cell (by exact hs0)).trans (hd2 i hi)
          have hBw : Below w.heap.size w wr := hB2.trans (hB.mono (Nat.le_of_lt hs0))
          have hws : w.heap.size < wr.heap.size := by have := hB.size; omega
          clear hB hB2 hd2
          obtain ⟨g, hg⟩ : ∃ g, g = opens len0 (fun i => z0.getD i 0) p := ⟨_, rfl⟩
          have H1 : Hid (opens len0 (fun i => z0.getD i 0) p = g) := hg.symm
          have H2 : Hid (opens (len0 - p) (fun i => z0.getD (p + i) 0) 0 = g) := (opens_cut len0 p (fun i => z0.getD i 0)).trans hg.symm
          have H3 : Hid (opens (len2 + len0) (cont len2 z2 z0) (len2 + p) = g) := (opens_shift len2 len0 p z2 z0).trans hg.symm
          obtain rfl : g = false := by rw [hg]; simp [opens]; omega
          clear hg
          go_wp2_with fail
          refine (zz_any _ w.heap.size 0 len0 _ p (fun i => z0.getD i 0) _ (by omega) (by omega) (fun _ => rfl) hd).mono ?_
          rintro e w3 ⟨he, hb3⟩
          rw [H1.out] at he
          subst he
          have hd3 : ∀ i, i < len0 → w3.cell? ⟨w.heap.size, i, none⟩ = some (.int .u8 (z0.getD i 0)) := fun i hi => (hb3.cell (by exact hws)).trans (by simpa using hd i hi)
          have hj3 : ∀ i, i < len2 + len0 → w3.cell? ⟨w2.heap.size, 0 + i, none⟩ = some (.int .u8 (cont len2 z2 z0 i)) := fun i hi => (hb3.cell (by exact hjs)).trans (hj i hi)
          have hw3 : w.heap.size < w3.heap.size := by have := hb3.size; omega
          have hj3s : w2.heap.size < w3.heap.size := by have := hb3.size; omega
          have hBw3 : Below w.heap.size w w3 := hBw.trans (hb3.mono (Nat.le_of_lt hws))
          clear hd hj hws hjs hBw hb3
          go_wp2_with fail
          refine (zz_any _ w.heap.size p (len0 - p) _ 0 (fun i => z0.getD (p + i) 0) _ (by omega) (by omega) (fun _ => rfl) (fun i hi => hd3 (p + i) (by omega))).mono ?_
          rintro e w4 ⟨he, hb4⟩
          rw [H2.out] at he
          subst he
          have hd4 : ∀ i, i < len0 → w4.cell? ⟨w.heap.size, i, none⟩ = some (.int .u8 (z0.getD i 0)) := fun i hi => (hb4.cell (by exact hw3)).trans (hd3 i hi)
          have hj4 : ∀ i, i < len2 + len0 → w4.cell? ⟨w2.heap.size, 0 + i, none⟩ = some (.int .u8 (cont len2 z2 z0 i)) := fun i hi => (hb4.cell (by exact hj3s)).trans (hj3 i hi)
          have hw4 : w.heap.size < w4.heap.size := by have := hb4.size; omega
          have hBw4 : Below w.heap.size w w4 := hBw3.trans (hb4.mono (Nat.le_of_lt hw3))
          clear hd3 hj3 hw3 hj3s hBw3 hb4
          go_wp2_with fail
          refine (zz_any _ w2.heap.size 0 (len2 + len0) _ (len2 + p) (cont len2 z2 z0) _ (by omega) (by omega) (fun _ => rfl) hj4).mono ?_
          rintro e w5 ⟨he, hb5⟩
          rw [H3.out] at he
          subst he
          have hBw5 : Below w.heap.size w w5 := hBw4.trans (hb5.mono (Nat.le_of_lt hw4))
          clear hd4 hj4 hw4 hBw4 hb5
          clear H1 H2 H3
          go_wp2
          go_ret
          exact ⟨rfl, hBw5⟩

set_option maxHeartbeats 4000000 in
theorem main_end (x0 : Addr) (b0 o0 len0 cap0 : Nat) (z0 : List Int) (a2 : Option Addr) (b2 o2 len2 cap2 : Nat) (z2 : List Int) (w : World)
    (ha0 : 0 < len0 → some x0 = some ⟨b0, o0, none⟩) (hc0 : ∀ i, i < len0 → w.cell? ⟨b0, o0 + i, none⟩ = some (.int .u8 (z0.getD i 0))) (hz0 : len0 ≤ z0.length)
    (ha2 : 0 < len2 → a2 = some ⟨b2, o2, none⟩) (hc2 : ∀ i, i < len2 → w.cell? ⟨b2, o2 + i, none⟩ = some (.int .u8 (z2.getD i 0)))
    (hT : len0 + len2 ≤ 1048576) :
    Calls Try.prog 3 #[.slice (some x0) len0 cap0, .int .i64 len0, .slice a2 len2 cap2] w fun e w' => e = .returned (.bool true) ∧ Below w.heap.size w w' := by
  obtain ⟨w2, hcp, hR, hB2⟩ := copy_run w x0 b0 o0 len0 cap0 z0 ha0 hc0 hz0
  have hmk0 := run_make_row' (P := Try.prog) 22 5 (.int .u8 0) 1 Try.underlying22 info5 rfl .i64 .i64 len0 (by omega) (by omega)
  have hmk := run_make_row' (P := Try.prog) 22 5 (.int .u8 0) 1 Try.underlying22 info5 rfl .i64 .i64 (len2 + len0) (by omega) (by omega)
  have ec : ((len2 + len0 : Nat) : Int) = (len2 : Int) + (len0 : Int) := by omega
  rw [ec] at hmk
  clear ec
  have hne := fun (w : World) => run_neq_slice_nil_any (P := Try.prog) w 22 5 (some x0) len0 cap0 0 0 Try.underlying22
  have e5 : decide (len0 + len2 ≤ 1048576) = true := by simp; omega
  have hpd : decide (len0 < len0) = false := by simp
  go_enter Try.func3, Try.ntmps3
  go_wp2_with (go_at_call 5; refine (bytes5 _ _ _ _ _ _ _ _).mono ?_; rintro e w' ⟨rfl, rfl⟩)
  clear hmk0 hmk hcp hne
  have hS0 := stage_made w2 (len2 + len0) (cont len2 z2 z0)
  have hs0 : w.heap.size < w2.heap.size := hR.lt
  have hd2 : ∀ i, i < len0 → w2.cell? ⟨w.heap.size, 0 + i, none⟩ = some (.int .u8 (z0.getD i 0)) := fun i hi => by rw [Nat.zero_add]; exact hR.cell hi
  clear hR
  go_loopg [9] len2 (fun g i wr => ∃ k : Nat, k ≤ len2 ∧ g = len2 - k ∧ i = .int .i64 k ∧ wr.rowIs w2.heap.size 5 (len2 + len0) (stage (cont len2 z2 z0) k) ∧ Below w2.heap.size w2 wr)
  case atStart => exact ⟨0, Nat.zero_le _, rfl, rfl, hS0, (Below.refl _ _).alloc (Nat.le_refl _) _⟩
  case round =>
    obtain ⟨k, hk, rfl, rfl, hS, hB⟩ := hrel
    clear hS0
    by_cases hlt : k < len2
    · obtain rfl := ha2 (by omega)
      have hlz : (k : Int) < (len2 : Int) := by omega
      have hbl := block_lt_of_cell (hc2 k hlt)
      have t1 : wr.cell? ⟨b2, o2 + k, none⟩ = some (.int .u8 (z2.getD k 0)) := (hB.cell (Nat.lt_of_lt_of_le hbl hB2.size)).trans ((hB2.cell hbl).trans (hc2 k hlt))
      have t2 := hS.cell (i := k) (by omega)
      have t3 := hS.frozen k
      go_wp2
      go_roundg (len2 - (k + 1))
      case measure => go_light; omega
      case rel => go_light; exact ⟨k + 1, by omega, rfl, by simp, stage_step hS (cont_p hlt), hB.setCell (Nat.le_refl _) _⟩
    · obtain rfl : len2 = k := by omega
      clear hlt
      go_wp2
      go_loopg [10] len0 (fun g i wx => ∃ k : Nat, k ≤ len0 ∧ g = len0 - k ∧ i = .int .i64 k ∧ wx.rowIs w2.heap.size 5 (len2 + len0) (stage (cont len2 z2 z0) (len2 + k)) ∧ Below w2.heap.size w2 wx)
      case atStart => exact ⟨0, Nat.zero_le _, rfl, rfl, hS, hB⟩
      case round =>
        clear hS hB
        obtain ⟨k, hk, rfl, rfl, hS, hB⟩ := hrel
        by_cases hlt : k < len0
        · have hlz : (k : Int) < (len0 : Int) := by omega
          have t1 : wr.cell? ⟨w.heap.size, k, none⟩ = some (.int .u8 (z0.getD k 0)) := (hB.cell (by exact hs0)).trans (by simpa using hd2 k hlt)
          have t2 := hS.cell (i := len2 + k) (by omega)
          have t3 := hS.frozen (len2 + k)
          go_wp2
          go_roundg (len0 - (k + 1))
          case measure => go_light; omega
          case rel => go_light; exact ⟨k + 1, by omega, rfl, by simp, stage_step hS cont_d, hB.setCell (Nat.le_refl _) _⟩
        · obtain rfl : len0 = k := by omega
          clear hlt
          have hj : ∀ i, i < len2 + len0 → wr.cell? ⟨w2.heap.size, 0 + i, none⟩ = some (.int .u8 (cont len2 z2 z0 i)) := fun i hi => by
            rw [Nat.zero_add, hS.cell hi]; simp [stage, hi]
          have hjs := hS.lt
          clear hS
          have hd : ∀ i, i < len0 → wr.cell? ⟨w.heap.size, 0 + i, none⟩ = some (.int .u8 (z0.getD i 0)) := fun i hi => (hB.cell (by exact hs0)).trans (hd2 i hi)
          have hBw : Below w.heap.size w wr := hB2.trans (hB.mono (Nat.le_of_lt hs0))
          have hws : w.heap.size < wr.heap.size := by have := hB.size; omega
          clear hB hB2 hd2
          obtain ⟨g, hg⟩ : ∃ g, g = opens len0 (fun i => z0.getD i 0) len0 := ⟨_, rfl⟩
          have H1 : Hid (opens len0 (fun i => z0.getD i 0) len0 = g) := hg.symm
          have H2 : Hid (opens 0 (fun i => 0) 0 = g) := (show opens 0 (fun i => 0) 0 = false from rfl).trans (by rw [hg]; simp [opens]; omega)
          have H3 : Hid (opens (len2 + len0) (cont len2 z2 z0) (len2 + len0) = g) := (opens_shift len2 len0 len0 z2 z0).trans hg.symm
          obtain rfl : g = false := by rw [hg]; simp [opens]; omega
          clear hg
          go_wp2_with fail
          refine (zz_any _ w.heap.size 0 len0 _ len0 (fun i => z0.getD i 0) _ (by omega) (by omega) (fun _ => rfl) hd).mono ?_
          rintro e w3 ⟨he, hb3⟩
          rw [H1.out] at he
          subst he
          have hd3 : ∀ i, i < len0 → w3.cell? ⟨w.heap.size, i, none⟩ = some (.int .u8 (z0.getD i 0)) := fun i hi => (hb3.cell (by exact hws)).trans (by simpa using hd i hi)
          have hj3 : ∀ i, i < len2 + len0 → w3.cell? ⟨w2.heap.size, 0 + i, none⟩ = some (.int .u8 (cont len2 z2 z0 i)) := fun i hi => (hb3.cell (by exact hjs)).trans (hj i hi)
          have hw3 : w.heap.size < w3.heap.size := by have := hb3.size; omega
          have hj3s : w2.heap.size < w3.heap.size := by have := hb3.size; omega
          have hBw3 : Below w.heap.size w w3 := hBw.trans (hb3.mono (Nat.le_of_lt hws))
          clear hd hj hws hjs hBw hb3
          go_wp2_with fail
          refine (zz_any _ 0 0 0 _ 0 (fun i => 0) _ (by omega) (by omega) (fun h => absurd h (by omega)) (fun i hi => absurd hi (by omega))).mono ?_
          rintro e w4 ⟨he, hb4⟩
          rw [H2.out] at he
          subst he
          have hd4 : ∀ i, i < len0 → w4.cell? ⟨w.heap.size, i, none⟩ = some (.int .u8 (z0.getD i 0)) := fun i hi => (hb4.cell (by exact hw3)).trans (hd3 i hi)
          have hj4 : ∀ i, i < len2 + len0 → w4.cell? ⟨w2.heap.size, 0 + i, none⟩ = some (.int .u8 (cont len2 z2 z0 i)) := fun i hi => (hb4.cell (by exact hj3s)).trans (hj3 i hi)
          have hw4 : w.heap.size < w4.heap.size := by have := hb4.size; omega
          have hBw4 : Below w.heap.size w w4 := hBw3.trans (hb4.mono (Nat.le_of_lt hw3))
          clear hd3 hj3 hw3 hj3s hBw3 hb4
          go_wp2_with fail
          refine (zz_any _ w2.heap.size 0 (len2 + len0) _ (len2 + len0) (cont len2 z2 z0) _ (by omega) (by omega) (fun _ => rfl) hj4).mono ?_
          rintro e w5 ⟨he, hb5⟩
          rw [H3.out] at he
          subst he
          have hBw5 : Below w.heap.size w w5 := hBw4.trans (hb5.mono (Nat.le_of_lt hw4))
          clear hd4 hj4 hw4 hBw4 hb5
          clear H1 H2 H3
          go_wp2
          go_ret
          exact ⟨rfl, hBw5⟩

set_option maxHeartbeats 4000000 in
theorem main_nil (a2 : Option Addr) (b2 o2 len2 cap2 : Nat) (z2 : List Int) (w : World)
    (ha2 : 0 < len2 → a2 = some ⟨b2, o2, none⟩) (hc2 : ∀ i, i < len2 → w.cell? ⟨b2, o2 + i, none⟩ = some (.int .u8 (z2.getD i 0)))
    (hT : len2 ≤ 1048576) :
    Calls Try.prog 3 #[.slice none 0 0, .int .i64 0, .slice a2 len2 cap2] w fun e w' => e = .returned (.bool true) ∧ Below w.heap.size w w' := by
  have hmk := run_make_row' (P := Try.prog) 22 5 (.int .u8 0) 1 Try.underlying22 info5 rfl .i64 .i64 len2 (by omega) (by omega)
  have hne := fun (w : World) => run_neq_slice_nil_any (P := Try.prog) w 22 5 none 0 0 0 0 Try.underlying22
  have e5 : decide (len2 ≤ 1048576) = true := by simp; omega
  go_enter Try.func3, Try.ntmps3
  go_wp2_with (go_at_call 5; refine (bytes5 _ _ _ _ _ _ _ _).mono ?_; rintro e w' ⟨rfl, rfl⟩)
  clear hmk hne
  have hS0 := stage_made w len2 (fun i => z2.getD i 0)
  go_loopg [9] len2 (fun g i wr => ∃ k : Nat, k ≤ len2 ∧ g = len2 - k ∧ i = .int .i64 k ∧ wr.rowIs w.heap.size 5 len2 (stage (fun i => z2.getD i 0) k) ∧ Below w.heap.size w wr)
  case atStart => exact ⟨0, Nat.zero_le _, rfl, rfl, hS0, (Below.refl _ _).alloc (Nat.le_refl _) _⟩
  case round =>
    obtain ⟨k, hk, rfl, rfl, hS, hB⟩ := hrel
    clear hS0
    by_cases hlt : k < len2
    · obtain rfl := ha2 (by omega)
      have hlz : (k : Int) < (len2 : Int) := by omega
      have hbl := block_lt_of_cell (hc2 k hlt)
      have t1 : wr.cell? ⟨b2, o2 + k, none⟩ = some (.int .u8 (z2.getD k 0)) := (hB.cell hbl).trans (hc2 k hlt)
      have t2 := hS.cell (i := k) (by omega)
      have t3 := hS.frozen k
      go_wp2
      go_roundg (len2 - (k + 1))
      case measure => go_light; omega
      case rel => go_light; exact ⟨k + 1, by omega, rfl, by simp, stage_step hS rfl, hB.setCell (Nat.le_refl _) _⟩
    · obtain rfl : len2 = k := by omega
      clear hlt
      go_wp2
      go_loopg [10] 0 (fun g i wx => i = .int .i64 0 ∧ wx.rowIs w.heap.size 5 len2 (stage (fun i => z2.getD i 0) len2) ∧ Below w.heap.size w wx)
      case atStart => exact ⟨rfl, hS, hB⟩
      case round =>
        clear hS hB
        obtain ⟨rfl, hS, hB⟩ := hrel
        have hj : ∀ i, i < len2 → wr.cell? ⟨w.heap.size, 0 + i, none⟩ = some (.int .u8 (z2.getD i 0)) := fun i hi => by
          rw [Nat.zero_add, hS.cell hi]; simp [stage, hi]
        have hjs := hS.lt
        clear hS
        have H1 : Hid (opens 0 (fun i => 0) 0 = false) := rfl
        have H3 : Hid (opens len2 (fun i => z2.getD i 0) len2 = false) := by show opens len2 (fun i => z2.getD i 0) len2 = false; simp [opens]; omega
        go_wp2_with fail
        refine (zz_any _ 0 0 0 _ 0 (fun i => 0) _ (by omega) (by omega) (fun h => absurd h (by omega)) (fun i hi => absurd hi (by omega))).mono ?_
        rintro e w3 ⟨he, hb3⟩
        rw [H1.out] at he
        subst he
        have hj3 : ∀ i, i < len2 → w3.cell? ⟨w.heap.size, 0 + i, none⟩ = some (.int .u8 (z2.getD i 0)) := fun i hi => (hb3.cell (by exact hjs)).trans (hj i hi)
        have hj3s : w.heap.size < w3.heap.size := by have := hb3.size; omega
        have hBw3 : Below w.heap.size w w3 := hB.trans (hb3.mono (Nat.le_of_lt hjs))
        clear hj hjs hB hb3
        go_wp2_with fail
        refine (zz_any _ 0 0 0 _ 0 (fun i => 0) _ (by omega) (by omega) (fun h => absurd h (by omega)) (fun i hi => absurd hi (by omega))).mono ?_
        rintro e w4 ⟨he, hb4⟩
        rw [H1.out] at he
        subst he
        have hj4 : ∀ i, i < len2 → w4.cell? ⟨w.heap.size, 0 + i, none⟩ = some (.int .u8 (z2.getD i 0)) := fun i hi => (hb4.cell (by exact hj3s)).trans (hj3 i hi)
        have hj4s : w.heap.size < w4.heap.size := by have := hb4.size; omega
        have hBw4 : Below w.heap.size w w4 := hBw3.trans (hb4.mono (Nat.le_of_lt hj3s))
        clear hj3 hj3s hBw3 hb4
        go_wp2_with fail
        refine (zz_any _ w.heap.size 0 len2 _ len2 (fun i => z2.getD i 0) _ (by omega) (by omega) (fun _ => rfl) hj4).mono ?_
        rintro e w5 ⟨he, hb5⟩
        rw [H3.out] at he
        subst he
        have hBw5 : Below w.heap.size w w5 := hBw4.trans (hb5.mono (Nat.le_of_lt hj4s))
        clear hj4 hj4s hBw4 hb5 H1 H3
        go_wp2
        go_ret
        exact ⟨rfl, hBw5⟩

set_option maxHeartbeats 2000000 in
theorem shift_walk (a0 : Option Addr) (b0 o0 len0 cap0 : Nat) (z0 : List Int) (p : Int) (a2 : Option Addr) (b2 o2 len2 cap2 : Nat) (z2 : List Int) (w : World)
    (ha0 : 0 < len0 → a0 = some ⟨b0, o0, none⟩) (hc0 : ∀ i, i < len0 → w.cell? ⟨b0, o0 + i, none⟩ = some (.int .u8 (z0.getD i 0))) (hz0 : len0 ≤ z0.length)
    (hbd : ∀ i, i < len0 → 0 ≤ z0.getD i 0 ∧ z0.getD i 0 ≤ 255) (hn0 : a0 = none → len0 = 0 ∧ cap0 = 0)
    (ha2 : 0 < len2 → a2 = some ⟨b2, o2, none⟩) (hc2 : ∀ i, i < len2 → w.cell? ⟨b2, o2 + i, none⟩ = some (.int .u8 (z2.getD i 0))) :
    Calls Try.prog 3 #[.slice a0 len0 cap0, .int .i64 p, .slice a2 len2 cap2] w fun e w' => e = .returned (.bool true) ∧ Below w.heap.size w w' := by
  by_cases g1 : ¬ len0 + len2 ≤ 1048576
  · have e5 : decide (len0 + len2 ≤ 1048576) = false := by simpa using g1
    go_enter Try.func3, Try.ntmps3
    go_wp2_with (go_at_call 5; refine (bytes5 _ _ _ _ _ _ _ _).mono ?_; rintro e w' ⟨rfl, rfl⟩)
    go_ret
    exact ⟨rfl, Below.refl _ _⟩
  have e5 : decide (len0 + len2 ≤ 1048576) = true := by simpa using g1
  have l0 : (len0 : Int) ≤ 1048576 := by omega
  have l2 : (len2 : Int) ≤ 1048576 := by omega
  have l02 : (len0 : Int) + (len2 : Int) ≤ 1048576 := by omega
  by_cases g2 : p < 0
  · go_enter Try.func3, Try.ntmps3
    go_wp2_with (go_at_call 5; refine (bytes5 _ _ _ _ _ _ _ _).mono ?_; rintro e w' ⟨rfl, rfl⟩)
    go_ret
    exact ⟨rfl, Below.refl _ _⟩
  by_cases g3 : (len0 : Int) < p
  · go_enter Try.func3, Try.ntmps3
    go_wp2_with (go_at_call 5; refine (bytes5 _ _ _ _ _ _ _ _).mono ?_; rintro e w' ⟨rfl, rfl⟩)
    go_ret
    exact ⟨rfl, Below.refl _ _⟩
  obtain ⟨P, rfl⟩ := Int.eq_ofNat_of_zero_le (show 0 ≤ p by omega)
  cases a0 with
  | none =>
    obtain ⟨rfl, rfl⟩ := hn0 rfl
    obtain rfl : P = 0 := by omega
    exact main_nil a2 b2 o2 len2 cap2 z2 w ha2 hc2 (by omega)
  | some x0 =>
    by_cases g4 : P + 3 ≤ len0
    · exact main_far x0 b0 o0 len0 cap0 z0 P a2 b2 o2 len2 cap2 z2 w ha0 hc0 hz0 ha2 hc2 (by omega) hbd g4
    · by_cases g5 : P < len0
      · exact main_near x0 b0 o0 len0 cap0 z0 P a2 b2 o2 len2 cap2 z2 w ha0 hc0 hz0 ha2 hc2 (by omega) g5 (by omega)
      · obtain rfl : P = len0 := by omega
        exact main_end x0 b0 o0 P cap0 z0 a2 b2 o2 len2 cap2 z2 w ha0 hc0 hz0 ha2 hc2 (by omega)

end Go.Proofs.Qxb6614697a.ShiftWalk
