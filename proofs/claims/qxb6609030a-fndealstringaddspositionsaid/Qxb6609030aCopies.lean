/-
  zzRow (16) and zzRows (15), by contracts: deep copies into new memory.
-/
import Derived.Test.Qxb6609030aRowsAt
import Derived.Deep.LoopGhost
import Derived.Deep.Light
import Derived.WalkSpells
namespace Go.Proofs.Qxb6609030a.Copies
open Go.RowKit Go.Proofs.Qxb6609030a.Text
set_option linter.unusedVariables false

theorem info22 : (Try.prog.info? 22).map (fun i => (i.zero, i.size, i.bytes)) = some (some (.int .u8 0), 1, 1) := by kernel_rfl
theorem info38 : (Try.prog.info? 38).map (fun i => (i.zero, i.size, i.bytes)) = some (some (.slice none 0 0), 1, 24) := by kernel_rfl

/-- The call handed back a slice whose elements are zs. -/
def NewRow (e : Ending) (w : World) (zs : List Int) : Prop :=
  ∃ a c, e = .returned (.slice a zs.length c) ∧ RowAt w a zs ∧ (a = none → zs.length = 0 ∧ c = 0) ∧ zs.length ≤ c
/-- .. whose elements are the rows of R. -/
def NewRows (e : Ending) (w : World) (R : List (List Int)) : Prop :=
  ∃ a c, e = .returned (.slice a R.length c) ∧ RowsAt w a R ∧ (a = none → R.length = 0 ∧ c = 0) ∧ R.length ≤ c

/-- A row of cards, its first k cells filled. -/
def stage (zs : List Int) (k : Nat) : Nat → Value := fun i => .int .u8 (if i < k then zs.getD i 0 else 0)
theorem stage_made (w : World) (zs : List Int) (n : Nat) : (w.alloc (.cells (madeCells #[.int .u8 0] n) 22)).rowIs w.heap.size 22 n (stage zs 0) :=
  (World.rowIs_made w _ n 22).congr (fun j _ => by simp [stage])
theorem stage_step {w : World} {S T k : Nat} {zs : List Int} (h : w.rowIs S 22 T (stage zs k)) {v : Int} (hv : v = zs.getD k 0) : (w.setCell ⟨S, k, none⟩ (.int .u8 v)).rowIs S 22 T (stage zs (k + 1)) := by
  refine (h.set k _).congr (fun i _ => ?_)
  unfold stage
  by_cases e : i = k
  · subst e; simp [hv]
  · rw [if_neg e]
    by_cases hlt : i < k
    · rw [if_pos hlt, if_pos (by omega)]
    · rw [if_neg hlt, if_neg (by omega)]

set_option maxHeartbeats 1000000 in
theorem row_any (a : Option Addr) (zs : List Int) (cap : Nat) (w : World) (hl : zs.length ≤ 1048576) (hn : a = none → zs.length = 0 ∧ cap = 0) (hR : RowAt w a zs) :
    Calls Try.prog 16 #[.slice a zs.length cap] w fun e w' => NewRow e w' zs ∧ Below w.heap.size w w' := by
  cases a with
  | none =>
    obtain ⟨h0, rfl⟩ := hn rfl
    obtain rfl : zs = [] := List.eq_nil_of_length_eq_zero h0
    have hnil := fun (w : World) => Lib.run_eql_slice_nil (P := Try.prog) w 28 5 none 0 0 0 0 Try.underlying28
    go_enter Try.func16, Try.ntmps16
    go_wp2
    go_ret
    exact ⟨⟨none, 0, rfl, RowAt.nil _ _, fun _ => ⟨rfl, rfl⟩, Nat.le_refl _⟩, Below.refl _ _⟩
  | some x =>
    have hnil := fun (w : World) => Lib.run_eql_slice_nil (P := Try.prog) w 28 5 (some x) zs.length cap 0 0 Try.underlying28
    have hmk := run_make_row' (P := Try.prog) 38 22 (.int .u8 0) 1 Try.underlying38 info22 rfl .i64 .i64 zs.length (by omega) (by omega)
    obtain ⟨b, o, ha, hc⟩ := hR
    have HC : Hid (∀ i, i < zs.length → w.cell? ⟨b, o + i, none⟩ = some (.int .u8 (zs.getD i 0))) := hc
    clear hc
    go_enter Try.func16, Try.ntmps16
    go_wp2
    clear hmk hnil
    have hS0 := stage_made w zs zs.length
    go_loopg [4] zs.length (fun g i wr => ∃ k : Nat, k ≤ zs.length ∧ g = zs.length - k ∧ i = .int .i64 k ∧ wr.rowIs w.heap.size 22 zs.length (stage zs k) ∧ Below w.heap.size w wr)
    case atStart => exact ⟨0, Nat.zero_le _, rfl, rfl, hS0, (Below.refl _ _).alloc (Nat.le_refl _) _⟩
    case round =>
      obtain ⟨k, hk, rfl, rfl, hS, hB⟩ := hrel
      clear hS0
      by_cases hlt : k < zs.length
      · obtain ⟨rfl⟩ := ha (by omega)
        have hlz : (k : Int) < (zs.length : Int) := by omega
        obtain ⟨v, hv⟩ : ∃ v, v = zs.getD k 0 := ⟨_, rfl⟩
        have HV : Hid (v = zs.getD k 0) := hv
        have t1 : wr.cell? ⟨b, o + k, none⟩ = some (.int .u8 v) := by rw [hv]; exact (hB.cell (block_lt_of_cell (HC.out k hlt))).trans (HC.out k hlt)
        clear hv
        have t2 := hS.cell (i := k) (by omega)
        have t3 := hS.frozen k
        go_wp2
        go_roundg (zs.length - (k + 1))
        case measure => go_light; omega
        case rel => go_light; exact ⟨k + 1, by omega, rfl, by simp, stage_step hS HV.out, hB.setCell (Nat.le_refl _) _⟩
      · have hkl : k = zs.length := by omega
        go_wp2
        go_ret
        refine ⟨⟨some ⟨w.heap.size, 0, none⟩, zs.length, rfl, ⟨w.heap.size, 0, fun _ => rfl, fun i hi => ?_⟩, (fun h => by cases h), Nat.le_refl _⟩, hB⟩
        rw [Nat.zero_add, hS.cell hi]
        simp [stage, hkl, hi]

/-- The new slice of rows when its first k rows are made. -/
def Mid (w : World) (S n : Nat) (R : List (List Int)) (k : Nat) : Prop :=
  ∃ f, w.rowIs S 38 n f ∧ (∀ r, r < n → ∃ ra rl rc, f r = .slice ra rl rc) ∧
    ∀ r, r < k → ∃ ra rc, f r = .slice ra (R.getD r []).length rc ∧ RowAt w ra (R.getD r []) ∧ (ra = none → (R.getD r []).length = 0 ∧ rc = 0)

theorem mid_start (w : World) (n : Nat) (R : List (List Int)) : Mid (w.alloc (.cells (madeCells #[.slice none 0 0] n) 38)) w.heap.size n R 0 :=
  ⟨_, World.rowIs_made w _ n 38, fun r _ => ⟨none, 0, 0, rfl⟩, fun r h => absurd h (by omega)⟩

theorem Mid.slot {w : World} {S n k : Nat} {R : List (List Int)} (h : Mid w S n R k) {i : Nat} (hi : i < n) : (∃ ra rl rc, w.cell? ⟨S, i, none⟩ = some (.slice ra rl rc)) ∧ w.frozen? ⟨S, i, none⟩ = false ∧ S < w.heap.size := by
  obtain ⟨f, hf, hs, _⟩ := h
  obtain ⟨ra, rl, rc, e⟩ := hs i hi
  exact ⟨⟨ra, rl, rc, by rw [hf.cell hi, e]⟩, hf.frozen i, hf.lt⟩

theorem Mid.later {w w1 : World} {S n k : Nat} {R : List (List Int)} (h : Mid w S n R k) (hb : Below w.heap.size w w1) : Mid w1 S n R k := by
  obtain ⟨f, hf, hs, hr⟩ := h
  refine ⟨f, hf.of_block (hb.block S hf.lt), hs, fun r h => ?_⟩
  obtain ⟨ra, rc, e, h1, h2⟩ := hr r h
  exact ⟨ra, rc, e, h1.later hb, h2⟩

theorem Mid.step {w : World} {S n k : Nat} {R : List (List Int)} (h : Mid w S n R k) {a : Option Addr} {c : Nat} (ha : RowAt w a (R.getD k [])) (hn : a = none → (R.getD k []).length = 0 ∧ c = 0) :
    Mid (w.setCell ⟨S, k, none⟩ (.slice a (R.getD k []).length c)) S n R (k + 1) := by
  obtain ⟨f, hf, hs, hr⟩ := h
  have hni : ∀ j, j < n → ∀ x, f j ≠ .int .u8 x := fun j hj x e => by
    obtain ⟨ra, rl, rc, e'⟩ := hs j hj
    rw [e'] at e; cases e
  refine ⟨_, hf.set k _, fun r hr' => ?_, fun r hr' => ?_⟩
  · by_cases e : r = k
    · subst e; exact ⟨a, (R.getD r []).length, c, by simp⟩
    · obtain ⟨ra, rl, rc, e'⟩ := hs r hr'
      exact ⟨ra, rl, rc, by simp [e, e']⟩
  · by_cases e : r = k
    · subst e; exact ⟨a, c, by simp, ha.setOther hf hni _, hn⟩
    · obtain ⟨ra, rc, e', h1, h2⟩ := hr r (by omega)
      exact ⟨ra, rc, by simp [e, e'], h1.setOther hf hni _, h2⟩

theorem Mid.done {w : World} {S : Nat} {R : List (List Int)} (h : Mid w S R.length R R.length) : RowsAt w (some ⟨S, 0, none⟩) R := by
  obtain ⟨f, hf, hs, hr⟩ := h
  refine ⟨S, 0, fun _ => rfl, fun r h => ?_⟩
  obtain ⟨ra, rc, e, h1, h2⟩ := hr r h
  exact ⟨ra, rc, by rw [Nat.zero_add, hf.cell h, e], h1, h2⟩

set_option maxHeartbeats 1000000 in
theorem rows_any (a : Option Addr) (R : List (List Int)) (cap : Nat) (w : World) (hl : R.length ≤ 1048576) (hr : ∀ r, r < R.length → (R.getD r []).length ≤ 1048576) (hn : a = none → R.length = 0 ∧ cap = 0) (hR : RowsAt w a R) :
    Calls Try.prog 15 #[.slice a R.length cap] w fun e w' => NewRows e w' R ∧ Below w.heap.size w w' := by
  cases a with
  | none =>
    obtain ⟨h0, rfl⟩ := hn rfl
    obtain rfl : R = [] := List.eq_nil_of_length_eq_zero h0
    have hnil := fun (w : World) => Lib.run_eql_slice_nil (P := Try.prog) w 27 28 none 0 0 0 0 Try.underlying27
    go_enter Try.func15, Try.ntmps15
    go_wp2
    go_ret
    exact ⟨⟨none, 0, rfl, RowsAt.nil _ _, fun _ => ⟨rfl, rfl⟩, Nat.le_refl _⟩, Below.refl _ _⟩
  | some x =>
    have hnil := fun (w : World) => Lib.run_eql_slice_nil (P := Try.prog) w 27 28 (some x) R.length cap 0 0 Try.underlying27
    have hmk := run_make_row' (P := Try.prog) 34 38 (.slice none 0 0) 24 Try.underlying34 info38 rfl .i64 .i64 R.length (by omega) (by omega)
    obtain ⟨b, o, ha, hc⟩ := hR
    go_enter Try.func15, Try.ntmps15
    go_wp2
    clear hmk hnil
    have hS0 := mid_start w R.length R
    go_loopg [4] R.length (fun g i wr => ∃ k : Nat, k ≤ R.length ∧ g = R.length - k ∧ i = .int .i64 k ∧ Mid wr w.heap.size R.length R k ∧ Below w.heap.size w wr)
    case atStart => exact ⟨0, Nat.zero_le _, rfl, rfl, hS0, (Below.refl _ _).alloc (Nat.le_refl _) _⟩
    case round =>
      obtain ⟨k, hk, rfl, rfl, hS, hB⟩ := hrel
      clear hS0
      by_cases hlt : k < R.length
      · obtain ⟨rfl⟩ := ha (by omega)
        have hlz : (k : Int) < (R.length : Int) := by omega
        obtain ⟨ra, rc, c1, c2, c3⟩ := hc k hlt
        have t1 := (hB.cell (block_lt_of_cell c1)).trans c1
        have d2 := c2.later hB
        have d3 := hr k hlt
        clear c1 c2
        obtain ⟨L, hL⟩ : ∃ L, L = R.getD k [] := ⟨_, rfl⟩
        have HL : Hid (L = R.getD k []) := hL
        rw [← hL] at t1 d2 d3 c3
        clear hL
        go_wp2_with (go_at_call 16; refine (row_any _ _ _ _ d3 c3 d2).mono ?_; rintro e w1 ⟨hnr, hb1⟩; obtain ⟨a', c', rfl, e1, e2, e3⟩ := hnr; have hS1 := hS.later hb1; obtain ⟨⟨qa, ql, qc, s1⟩, s2, s3⟩ := hS1.slot hlt)
        go_roundg (R.length - (k + 1))
        case measure => go_light; omega
        case rel =>
          go_light
          have hst := hS1.step (a := a') (c := c') (by rw [← HL.out]; exact e1) (by rw [← HL.out]; exact e2)
          rw [← HL.out] at hst
          exact ⟨k + 1, by omega, rfl, by simp, hst, (hB.trans (hb1.mono hB.size)).setCell (Nat.le_refl _) _⟩
      · have hkl : k = R.length := by omega
        go_wp2
        go_ret
        rw [hkl] at hS
        exact ⟨⟨some ⟨w.heap.size, 0, none⟩, R.length, rfl, hS.done, (fun h => by cases h), Nat.le_refl _⟩, hB⟩

end Go.Proofs.Qxb6609030a.Copies
