/-
  The walk of FnOpensMultiLineCountsARunOfQuotes (4).
-/
import Derived.Test.Qxb6614697aCount
import Derived.Test.Qxb6614697aSrc
import Derived.Deep.LoopGhost
import Derived.Deep.Light
namespace Go.Proofs.Qxb6614697a.RunWalk
open Go.ChangeShapes Go.WideShapes Go.ChangeAt Go.RowKit
open Go.Proofs.Qxb6614697a.Opens Go.Proofs.Qxb6614697a.Src Go.Proofs.Qxb6614697a.Count
set_option linter.unusedVariables false

set_option maxHeartbeats 4000000 in
theorem main0 (a0 : Option Addr) (b0 o0 len0 cap0 : Nat) (z0 : List Int) (q : Int) (n : Nat) (a3 : Option Addr) (b3 o3 len3 cap3 : Nat) (z3 : List Int) (w : World)
    (ha0 : 0 < len0 → a0 = some ⟨b0, o0, none⟩) (hc0 : ∀ i, i < len0 → w.cell? ⟨b0, o0 + i, none⟩ = some (.int .u8 (z0.getD i 0)))
    (ha3 : 0 < len3 → a3 = some ⟨b3, o3, none⟩) (hc3 : ∀ i, i < len3 → w.cell? ⟨b3, o3 + i, none⟩ = some (.int .u8 (z3.getD i 0)))
    (hT : len0 + n + len3 ≤ 1048576) (hn : n ≤ 65536) (h3 : (len3 : Int) ≤ 0) (ht : 0 < len3 → z3.getD 0 0 ≠ q) :
    Calls Try.prog 4 #[.slice a0 len0 cap0, .int .u8 q, .int .i64 n, .slice a3 len3 cap3] w fun e w' => e = .returned (.bool true) ∧ Below w.heap.size w w' := by
  have hmk := run_make_row' (P := Try.prog) 22 5 (.int .u8 0) 1 Try.underlying22 info5 rfl .i64 .i64 (len0 + n + len3) (by omega) (by omega)
  have ec : ((len0 + n + len3 : Nat) : Int) = (len0 : Int) + (n : Int) + (len3 : Int) := by omega
  rw [ec] at hmk
  clear ec
  have e7 : decide (len0 + len3 ≤ 1048576) = true := by simp; omega
  have Ht : Hid (0 < len3 → z3.getD 0 0 ≠ q) := ht
  clear ht
  go_enter Try.func4, Try.ntmps4
  go_wp2_with (go_at_call 7; refine (bytes7 _ _ _ _ _ _ _ _ _).mono ?_; rintro e w' ⟨rfl, rfl⟩)
  clear hmk
  have hS0 := stage_made w (len0 + n + len3) (cont len0 n z0 q z3)
  go_loopg [10] len0 (fun g i wr => ∃ k : Nat, k ≤ len0 ∧ g = len0 - k ∧ i = .int .i64 k ∧ wr.rowIs w.heap.size 5 (len0 + n + len3) (stage (cont len0 n z0 q z3) k) ∧ Below w.heap.size w wr)
  case atStart => exact ⟨0, Nat.zero_le _, rfl, rfl, hS0, (Below.refl _ _).alloc (Nat.le_refl _) _⟩
  case round =>
    obtain ⟨k, hk, rfl, rfl, hS, hB⟩ := hrel
    clear hS0
    by_cases hlt : k < len0
    · obtain rfl := ha0 (by omega)
      have hlz : (k : Int) < (len0 : Int) := by omega
      have t1 : wr.cell? ⟨b0, o0 + k, none⟩ = some (.int .u8 (z0.getD k 0)) := (hB.cell (block_lt_of_cell (hc0 k hlt))).trans (hc0 k hlt)
      have t2 := hS.cell (i := k) (by omega)
      have t3 := hS.frozen k
      go_wp2
      go_roundg (len0 - (k + 1))
      case measure => go_light; omega
      case rel => go_light; exact ⟨k + 1, by omega, rfl, by simp, stage_step hS (cont_p hlt), hB.setCell (Nat.le_refl _) _⟩
    · obtain rfl : len0 = k := by omega
      clear hlt
      go_wp2
      go_loopg [11] n (fun g i wx => ∃ k : Nat, k ≤ n ∧ g = n - k ∧ i = .int .i64 k ∧ wx.rowIs w.heap.size 5 (len0 + n + len3) (stage (cont len0 n z0 q z3) (len0 + k)) ∧ Below w.heap.size w wx)
      case atStart => exact ⟨0, Nat.zero_le _, rfl, rfl, hS, hB⟩
      case round =>
        clear hS hB
        obtain ⟨k, hk, rfl, rfl, hS, hB⟩ := hrel
        by_cases hlt : k < n
        · have hlz : (k : Int) < (n : Int) := by omega
          have t2 := hS.cell (i := len0 + k) (by omega)
          have t3 := hS.frozen (len0 + k)
          go_wp2
          go_roundg (n - (k + 1))
          case measure => go_light; omega
          case rel => go_light; exact ⟨k + 1, by omega, rfl, by simp, stage_step hS (cont_q hlt), hB.setCell (Nat.le_refl _) _⟩
        · obtain rfl : n = k := by omega
          clear hlt
          go_wp2
          go_loopg [12] len3 (fun g i wx => ∃ k : Nat, k ≤ len3 ∧ g = len3 - k ∧ i = .int .i64 k ∧ wx.rowIs w.heap.size 5 (len0 + n + len3) (stage (cont len0 n z0 q z3) (len0 + n + k)) ∧ Below w.heap.size w wx)
          case atStart => exact ⟨0, Nat.zero_le _, rfl, rfl, hS, hB⟩
          case round =>
            clear hS hB
            obtain ⟨k, hk, rfl, rfl, hS, hB⟩ := hrel
            by_cases hlt : k < len3
            · omega
            · obtain rfl : len3 = k := by omega
              clear hlt
              have hcell : ∀ i, i < len0 + n + len3 → wr.cell? ⟨w.heap.size, 0 + i, none⟩ = some (.int .u8 (cont len0 n z0 q z3 i)) := fun i hi => by
                rw [Nat.zero_add, hS.cell hi]; simp [stage, hi]
              have hSz := hS.lt
              clear hS
              go_wp2
              go_loopg [13, 14] n (fun g c i wx => ∃ k : Nat, k ≤ n ∧ g = n - k ∧ i = .int .i64 ((len0 + k : Nat) : Int) ∧ c = .int .i64 (cnt n q k) ∧ (∀ i, i < len0 + n + len3 → wx.cell? ⟨w.heap.size, 0 + i, none⟩ = some (.int .u8 (cont len0 n z0 q z3 i))) ∧ w.heap.size < wx.heap.size ∧ Below w.heap.size w wx)
              case atStart => exact ⟨0, Nat.zero_le _, rfl, rfl, by simp [cnt], hcell, hSz, hB⟩
              case round =>
                clear hcell hSz hB
                obtain ⟨k, hk, rfl, rfl, rfl, hcell, hSz, hB⟩ := hrel
                have hcl := cnt_le n q k
                by_cases hlt : k < n
                · have hop := opens_run len0 n len3 z0 q z3 Ht.out k hlt
                  by_cases hy : (isq q && decide (k + 2 < n)) = true
                  · have hop' : opens (len0 + n + len3) (cont len0 n z0 q z3) (len0 + k) = true := hop.trans hy
                    clear hop
                    go_wp2_with (go_at_call 6; refine (zz_any _ w.heap.size 0 (len0 + n + len3) _ (len0 + k) (cont len0 n z0 q z3) _ (by omega) (by omega) (fun _ => rfl) hcell).mono ?_; rintro e w1 ⟨rfl, hB1⟩)
                    go_roundg (n - (k + 1))
                    case measure => go_light; omega
                    case rel => go_light; exact ⟨k + 1, by omega, rfl, by go_num, by rw [cnt_yes n q k hy]; go_num, fun i hi => (hB1.cell (by exact hSz)).trans (hcell i hi), Nat.lt_of_lt_of_le hSz hB1.size, hB.trans (hB1.mono (by omega))⟩
                  · have hy' : (isq q && decide (k + 2 < n)) = false := by simpa using hy
                    have hop' : opens (len0 + n + len3) (cont len0 n z0 q z3) (len0 + k) = false := hop.trans hy'
                    clear hop
                    go_wp2_with (go_at_call 6; refine (zz_any _ w.heap.size 0 (len0 + n + len3) _ (len0 + k) (cont len0 n z0 q z3) _ (by omega) (by omega) (fun _ => rfl) hcell).mono ?_; rintro e w1 ⟨rfl, hB1⟩)
                    go_roundg (n - (k + 1))
                    case measure => go_light; omega
                    case rel => go_light; exact ⟨k + 1, by omega, rfl, by go_num, by rw [cnt_no n q k hy'], fun i hi => (hB1.cell (by exact hSz)).trans (hcell i hi), Nat.lt_of_lt_of_le hSz hB1.size, hB.trans (hB1.mono (by omega))⟩
                · obtain rfl : n = k := by omega
                  clear hlt hcell
                  have tl : ∀ (v : Int), ((cnt n q n : Nat) : Int) = v → (((cnt n q n : Nat) : Int) == v) = true := fun v h => by rw [h]; simp
                  by_cases c1 : (q == 34) = true
                  · by_cases c3 : (2 : Int) < (n : Int)
                    · go_wp2
                      go_ret
                      exact ⟨ret_bool (tl _ (cnt_end_yes n q (by simp [isq, c1]) (by omega))), hB⟩
                    · go_wp2
                      go_ret
                      exact ⟨ret_bool (tl _ (cnt_end_no n q (.inr (by omega)))), hB⟩
                  · have c1' : (q == 34) = false := by simpa using c1
                    clear c1
                    by_cases c2 : (q == 39) = true
                    · by_cases c3 : (2 : Int) < (n : Int)
                      · go_wp2
                        go_ret
                        exact ⟨ret_bool (tl _ (cnt_end_yes n q (by simp [isq, c2]) (by omega))), hB⟩
                      · go_wp2
                        go_ret
                        exact ⟨ret_bool (tl _ (cnt_end_no n q (.inr (by omega)))), hB⟩
                    · have c2' : (q == 39) = false := by simpa using c2
                      clear c2
                      go_wp2
                      go_ret
                      exact ⟨ret_bool (tl _ (cnt_end_no n q (.inl (by simp [isq, c1', c2'])))), hB⟩

set_option maxHeartbeats 4000000 in
theorem main1 (a0 : Option Addr) (b0 o0 len0 cap0 : Nat) (z0 : List Int) (q : Int) (n : Nat) (a3 : Option Addr) (b3 o3 len3 cap3 : Nat) (z3 : List Int) (w : World)
    (ha0 : 0 < len0 → a0 = some ⟨b0, o0, none⟩) (hc0 : ∀ i, i < len0 → w.cell? ⟨b0, o0 + i, none⟩ = some (.int .u8 (z0.getD i 0)))
    (ha3 : 0 < len3 → a3 = some ⟨b3, o3, none⟩) (hc3 : ∀ i, i < len3 → w.cell? ⟨b3, o3 + i, none⟩ = some (.int .u8 (z3.getD i 0)))
    (hT : len0 + n + len3 ≤ 1048576) (hn : n ≤ 65536) (h3 : 0 < len3) (ht : 0 < len3 → z3.getD 0 0 ≠ q) :
    Calls Try.prog 4 #[.slice a0 len0 cap0, .int .u8 q, .int .i64 n, .slice a3 len3 cap3] w fun e w' => e = .returned (.bool true) ∧ Below w.heap.size w w' := by
  have hmk := run_make_row' (P := Try.prog) 22 5 (.int .u8 0) 1 Try.underlying22 info5 rfl .i64 .i64 (len0 + n + len3) (by omega) (by omega)
  have ec : ((len0 + n + len3 : Nat) : Int) = (len0 : Int) + (n : Int) + (len3 : Int) := by omega
  rw [ec] at hmk
  clear ec
  have e7 : decide (len0 + len3 ≤ 1048576) = true := by simp; omega
  have h3z : (0 : Int) < (len3 : Int) := by omega
  obtain rfl := ha3 h3
  have hx0 : w.cell? ⟨b3, o3, none⟩ = some (.int .u8 (z3.getD 0 0)) := hc3 0 h3
  have hq0 : (z3[0]?.getD 0 == q) = false := by simpa using ht h3
  have Ht : Hid (0 < len3 → z3.getD 0 0 ≠ q) := ht
  clear ht ha3
  go_enter Try.func4, Try.ntmps4
  go_wp2_with (go_at_call 7; refine (bytes7 _ _ _ _ _ _ _ _ _).mono ?_; rintro e w' ⟨rfl, rfl⟩)
  clear hmk
  have hS0 := stage_made w (len0 + n + len3) (cont len0 n z0 q z3)
  go_loopg [10] len0 (fun g i wr => ∃ k : Nat, k ≤ len0 ∧ g = len0 - k ∧ i = .int .i64 k ∧ wr.rowIs w.heap.size 5 (len0 + n + len3) (stage (cont len0 n z0 q z3) k) ∧ Below w.heap.size w wr)
  case atStart => exact ⟨0, Nat.zero_le _, rfl, rfl, hS0, (Below.refl _ _).alloc (Nat.le_refl _) _⟩
  case round =>
    obtain ⟨k, hk, rfl, rfl, hS, hB⟩ := hrel
    clear hS0
    by_cases hlt : k < len0
    · obtain rfl := ha0 (by omega)
      have hlz : (k : Int) < (len0 : Int) := by omega
      have t1 : wr.cell? ⟨b0, o0 + k, none⟩ = some (.int .u8 (z0.getD k 0)) := (hB.cell (block_lt_of_cell (hc0 k hlt))).trans (hc0 k hlt)
      have t2 := hS.cell (i := k) (by omega)
      have t3 := hS.frozen k
      go_wp2
      go_roundg (len0 - (k + 1))
      case measure => go_light; omega
      case rel => go_light; exact ⟨k + 1, by omega, rfl, by simp, stage_step hS (cont_p hlt), hB.setCell (Nat.le_refl _) _⟩
    · obtain rfl : len0 = k := by omega
      clear hlt
      go_wp2
      go_loopg [11] n (fun g i wx => ∃ k : Nat, k ≤ n ∧ g = n - k ∧ i = .int .i64 k ∧ wx.rowIs w.heap.size 5 (len0 + n + len3) (stage (cont len0 n z0 q z3) (len0 + k)) ∧ Below w.heap.size w wx)
      case atStart => exact ⟨0, Nat.zero_le _, rfl, rfl, hS, hB⟩
      case round =>
        clear hS hB
        obtain ⟨k, hk, rfl, rfl, hS, hB⟩ := hrel
        by_cases hlt : k < n
        · have hlz : (k : Int) < (n : Int) := by omega
          have t2 := hS.cell (i := len0 + k) (by omega)
          have t3 := hS.frozen (len0 + k)
          go_wp2
          go_roundg (n - (k + 1))
          case measure => go_light; omega
          case rel => go_light; exact ⟨k + 1, by omega, rfl, by simp, stage_step hS (cont_q hlt), hB.setCell (Nat.le_refl _) _⟩
        · obtain rfl : n = k := by omega
          clear hlt
          go_wp2
          go_loopg [12] len3 (fun g i wx => ∃ k : Nat, k ≤ len3 ∧ g = len3 - k ∧ i = .int .i64 k ∧ wx.rowIs w.heap.size 5 (len0 + n + len3) (stage (cont len0 n z0 q z3) (len0 + n + k)) ∧ Below w.heap.size w wx)
          case atStart => exact ⟨0, Nat.zero_le _, rfl, rfl, hS, hB⟩
          case round =>
            clear hS hB
            obtain ⟨k, hk, rfl, rfl, hS, hB⟩ := hrel
            by_cases hlt : k < len3
            · have hlz : (k : Int) < (len3 : Int) := by omega
              have t1 : wr.cell? ⟨b3, o3 + k, none⟩ = some (.int .u8 (z3.getD k 0)) := (hB.cell (block_lt_of_cell (hc3 k hlt))).trans (hc3 k hlt)
              have t2 := hS.cell (i := len0 + n + k) (by omega)
              have t3 := hS.frozen (len0 + n + k)
              go_wp2
              go_roundg (len3 - (k + 1))
              case measure => go_light; omega
              case rel => go_light; exact ⟨k + 1, by omega, rfl, by simp, stage_step hS cont_t, hB.setCell (Nat.le_refl _) _⟩
            · obtain rfl : len3 = k := by omega
              clear hlt
              have hcell : ∀ i, i < len0 + n + len3 → wr.cell? ⟨w.heap.size, 0 + i, none⟩ = some (.int .u8 (cont len0 n z0 q z3 i)) := fun i hi => by
                rw [Nat.zero_add, hS.cell hi]; simp [stage, hi]
              have hSz := hS.lt
              clear hS
              go_wp2
              go_loopg [13, 14] n (fun g c i wx => ∃ k : Nat, k ≤ n ∧ g = n - k ∧ i = .int .i64 ((len0 + k : Nat) : Int) ∧ c = .int .i64 (cnt n q k) ∧ (∀ i, i < len0 + n + len3 → wx.cell? ⟨w.heap.size, 0 + i, none⟩ = some (.int .u8 (cont len0 n z0 q z3 i))) ∧ w.heap.size < wx.heap.size ∧ Below w.heap.size w wx)
              case atStart => exact ⟨0, Nat.zero_le _, rfl, rfl, by simp [cnt], hcell, hSz, hB⟩
              case round =>
                clear hcell hSz hB
                obtain ⟨k, hk, rfl, rfl, rfl, hcell, hSz, hB⟩ := hrel
                have hcl := cnt_le n q k
                by_cases hlt : k < n
                · have hop := opens_run len0 n len3 z0 q z3 Ht.out k hlt
                  by_cases hy : (isq q && decide (k + 2 < n)) = true
                  · have hop' : opens (len0 + n + len3) (cont len0 n z0 q z3) (len0 + k) = true := hop.trans hy
                    clear hop
                    go_wp2_with (go_at_call 6; refine (zz_any _ w.heap.size 0 (len0 + n + len3) _ (len0 + k) (cont len0 n z0 q z3) _ (by omega) (by omega) (fun _ => rfl) hcell).mono ?_; rintro e w1 ⟨rfl, hB1⟩)
                    go_roundg (n - (k + 1))
                    case measure => go_light; omega
                    case rel => go_light; exact ⟨k + 1, by omega, rfl, by go_num, by rw [cnt_yes n q k hy]; go_num, fun i hi => (hB1.cell (by exact hSz)).trans (hcell i hi), Nat.lt_of_lt_of_le hSz hB1.size, hB.trans (hB1.mono (by omega))⟩
                  · have hy' : (isq q && decide (k + 2 < n)) = false := by simpa using hy
                    have hop' : opens (len0 + n + len3) (cont len0 n z0 q z3) (len0 + k) = false := hop.trans hy'
                    clear hop
                    go_wp2_with (go_at_call 6; refine (zz_any _ w.heap.size 0 (len0 + n + len3) _ (len0 + k) (cont len0 n z0 q z3) _ (by omega) (by omega) (fun _ => rfl) hcell).mono ?_; rintro e w1 ⟨rfl, hB1⟩)
                    go_roundg (n - (k + 1))
                    case measure => go_light; omega
                    case rel => go_light; exact ⟨k + 1, by omega, rfl, by go_num, by rw [cnt_no n q k hy'], fun i hi => (hB1.cell (by exact hSz)).trans (hcell i hi), Nat.lt_of_lt_of_le hSz hB1.size, hB.trans (hB1.mono (by omega))⟩
                · obtain rfl : n = k := by omega
                  clear hlt hcell
                  have tl : ∀ (v : Int), ((cnt n q n : Nat) : Int) = v → (((cnt n q n : Nat) : Int) == v) = true := fun v h => by rw [h]; simp
                  by_cases c1 : (q == 34) = true
                  · by_cases c3 : (2 : Int) < (n : Int)
                    · go_wp2
                      go_ret
                      exact ⟨ret_bool (tl _ (cnt_end_yes n q (by simp [isq, c1]) (by omega))), hB⟩
                    · go_wp2
                      go_ret
                      exact ⟨ret_bool (tl _ (cnt_end_no n q (.inr (by omega)))), hB⟩
                  · have c1' : (q == 34) = false := by simpa using c1
                    clear c1
                    by_cases c2 : (q == 39) = true
                    · by_cases c3 : (2 : Int) < (n : Int)
                      · go_wp2
                        go_ret
                        exact ⟨ret_bool (tl _ (cnt_end_yes n q (by simp [isq, c2]) (by omega))), hB⟩
                      · go_wp2
                        go_ret
                        exact ⟨ret_bool (tl _ (cnt_end_no n q (.inr (by omega)))), hB⟩
                    · have c2' : (q == 39) = false := by simpa using c2
                      clear c2
                      go_wp2
                      go_ret
                      exact ⟨ret_bool (tl _ (cnt_end_no n q (.inl (by simp [isq, c1', c2'])))), hB⟩

set_option maxHeartbeats 2000000 in
theorem run_walk (a0 : Option Addr) (b0 o0 len0 cap0 : Nat) (z0 : List Int) (q : Int) (n : Int) (a3 : Option Addr) (b3 o3 len3 cap3 : Nat) (z3 : List Int) (w : World)
    (ha0 : 0 < len0 → a0 = some ⟨b0, o0, none⟩) (hc0 : ∀ i, i < len0 → w.cell? ⟨b0, o0 + i, none⟩ = some (.int .u8 (z0.getD i 0)))
    (ha3 : 0 < len3 → a3 = some ⟨b3, o3, none⟩) (hc3 : ∀ i, i < len3 → w.cell? ⟨b3, o3 + i, none⟩ = some (.int .u8 (z3.getD i 0))) :
    Calls Try.prog 4 #[.slice a0 len0 cap0, .int .u8 q, .int .i64 n, .slice a3 len3 cap3] w fun e w' => e = .returned (.bool true) ∧ Below w.heap.size w w' := by
  by_cases g1 : ¬ len0 + len3 ≤ 1048576
  · have e7 : decide (len0 + len3 ≤ 1048576) = false := by simpa using g1
    go_enter Try.func4, Try.ntmps4
    go_wp2_with (go_at_call 7; refine (bytes7 _ _ _ _ _ _ _ _ _).mono ?_; rintro e w' ⟨rfl, rfl⟩)
    go_ret
    exact ⟨rfl, Below.refl _ _⟩
  have e7 : decide (len0 + len3 ≤ 1048576) = true := by simpa using g1
  have l0 : (len0 : Int) ≤ 1048576 := by omega
  have l3 : (len3 : Int) ≤ 1048576 := by omega
  by_cases g2 : n < 0
  · go_enter Try.func4, Try.ntmps4
    go_wp2_with (go_at_call 7; refine (bytes7 _ _ _ _ _ _ _ _ _).mono ?_; rintro e w' ⟨rfl, rfl⟩)
    go_ret
    exact ⟨rfl, Below.refl _ _⟩
  by_cases g3 : 65536 < n
  · go_enter Try.func4, Try.ntmps4
    go_wp2_with (go_at_call 7; refine (bytes7 _ _ _ _ _ _ _ _ _).mono ?_; rintro e w' ⟨rfl, rfl⟩)
    go_ret
    exact ⟨rfl, Below.refl _ _⟩
  obtain ⟨N, rfl⟩ := Int.eq_ofNat_of_zero_le (show 0 ≤ n by omega)
  by_cases g4 : (1048576 : Int) < (len0 : Int) + (N : Int) + (len3 : Int)
  · go_enter Try.func4, Try.ntmps4
    go_wp2_with (go_at_call 7; refine (bytes7 _ _ _ _ _ _ _ _ _).mono ?_; rintro e w' ⟨rfl, rfl⟩)
    go_ret
    exact ⟨rfl, Below.refl _ _⟩
  by_cases g5 : 0 < len3
  · by_cases g6 : (z3.getD 0 0 == q) = true
    · have h3z : (0 : Int) < (len3 : Int) := by omega
      obtain rfl := ha3 g5
      have hx0 : w.cell? ⟨b3, o3, none⟩ = some (.int .u8 (z3.getD 0 0)) := hc3 0 g5
      have g6' : (z3[0]?.getD 0 == q) = true := by simpa using g6
      clear ha3
      go_enter Try.func4, Try.ntmps4
      go_wp2_with (go_at_call 7; refine (bytes7 _ _ _ _ _ _ _ _ _).mono ?_; rintro e w' ⟨rfl, rfl⟩)
      go_ret
      exact ⟨rfl, Below.refl _ _⟩
    · exact main1 a0 b0 o0 len0 cap0 z0 q N a3 b3 o3 len3 cap3 z3 w ha0 hc0 ha3 hc3 (by omega) (by omega) g5 (fun _ => by simpa using g6)
  · exact main0 a0 b0 o0 len0 cap0 z0 q N a3 b3 o3 len3 cap3 z3 w ha0 hc0 ha3 hc3 (by omega) (by omega) (by omega) (fun h => absurd h g5)

end Go.Proofs.Qxb6614697a.RunWalk
