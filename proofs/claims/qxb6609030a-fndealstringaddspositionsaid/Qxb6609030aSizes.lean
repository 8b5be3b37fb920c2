/-
  The guards of the two statements, by contracts that say what the rest needs: zzGrowRow (11), zzGrow (12), zzRowIsPack (14), zzRowsArePack (13), the two bounds on lengths (10, 19). None of them touches the world.
-/
import Derived.Test.Qxb6609030aRowsAt
import Derived.Deep.LoopGhost
import Derived.Deep.Light
namespace Go.Proofs.Qxb6609030a.Sizes
open Go.RowKit Go.Proofs.Qxb6609030a.Text
set_option linter.unusedVariables false

theorem growRow_any (t : Int) (a : Option Addr) (len cap : Nat) (w : World) (h0 : 0 ≤ t) (h1 : t ≤ 1048577) :
    Calls Try.prog 11 #[.int .i64 t, .slice a len cap] w fun e w' => (∃ t', e = .returned (.int .i64 t') ∧ 0 ≤ t' ∧ t' ≤ 1048577) ∧ w = w' := by
  by_cases g1 : 1048576 < t
  · go_enter Try.func11, Try.ntmps11
    go_wp2
    go_ret
    exact ⟨⟨_, rfl, h0, h1⟩, rfl⟩
  by_cases g2 : 1048576 - t < (len : Int)
  · go_enter Try.func11, Try.ntmps11
    go_wp2
    go_ret
    exact ⟨⟨_, rfl, by omega, by omega⟩, rfl⟩
  · go_enter Try.func11, Try.ntmps11
    go_wp2
    go_ret
    exact ⟨⟨_, rfl, by omega, by omega⟩, rfl⟩

set_option maxHeartbeats 1000000 in
theorem grow_any (t : Int) (a : Option Addr) (R : List (List Int)) (cap : Nat) (w : World) (h0 : 0 ≤ t) (h1 : t ≤ 1048577) (hR : RowsAt w a R) :
    Calls Try.prog 12 #[.int .i64 t, .slice a R.length cap] w fun e w' => (∃ t', e = .returned (.int .i64 t') ∧ 0 ≤ t' ∧ t' ≤ 1048577) ∧ w = w' := by
  by_cases g1 : 1048576 < t
  · go_enter Try.func12, Try.ntmps12
    go_wp2
    go_ret
    exact ⟨⟨_, rfl, h0, h1⟩, rfl⟩
  by_cases g2 : (1048576 - t) / 8 < (R.length : Int)
  · go_enter Try.func12, Try.ntmps12
    go_wp2
    go_ret
    exact ⟨⟨_, rfl, by omega, by omega⟩, rfl⟩
  · obtain ⟨b, o, ha, hc⟩ := hR
    go_enter Try.func12, Try.ntmps12
    go_wp2
    go_loopg [0, 5] R.length (fun g s i wr => w = wr ∧ ∃ (k : Nat) (t' : Int), k ≤ R.length ∧ g = R.length - k ∧ i = .int .i64 k ∧ s = .int .i64 t' ∧ 0 ≤ t' ∧ t' ≤ 1048576)
    case atStart => exact ⟨rfl, 0, _, Nat.zero_le _, rfl, rfl, rfl, by omega, by omega⟩
    case round =>
      obtain ⟨rfl, k, t', hk, rfl, rfl, rfl, ht0, ht1⟩ := hrel
      by_cases hlt : k < R.length
      · obtain rfl := ha (by omega)
        have hlz : (k : Int) < (R.length : Int) := by omega
        obtain ⟨ra, rc, c1, _, _⟩ := hc k hlt
        go_wp2_with (go_at_call 11; refine (growRow_any _ _ _ _ _ ht0 (by omega)).mono ?_; rintro e w' ⟨⟨t2, rfl, h20, h21⟩, rfl⟩)
        · go_ret
          exact ⟨⟨_, rfl, h20, h21⟩, rfl⟩
        · go_roundg (R.length - (k + 1))
          case measure => go_light; omega
          case rel => go_light; exact ⟨rfl, k + 1, _, by omega, rfl, by simp, rfl, h20, by omega⟩
      · go_wp2
        go_ret
        exact ⟨⟨_, rfl, ht0, by omega⟩, rfl⟩

/-- The call answered a bool; where it answered true, q holds. -/
def SaysB (e : Ending) (q : Prop) : Prop := ∃ r, e = .returned (.bool r) ∧ (r = true → q)
theorem SaysB.no (q : Prop) : SaysB (.returned (.bool false)) q := ⟨_, rfl, fun h => by cases h⟩
theorem SaysB.yes {q : Prop} (h : q) : SaysB (.returned (.bool true)) q := ⟨_, rfl, fun _ => h⟩
theorem SaysB.out {e : Ending} {q : Prop} (h : SaysB e q) : e = .returned (.bool false) ∨ (e = .returned (.bool true) ∧ q) := by
  obtain ⟨r, rfl, h⟩ := h
  cases r
  · exact .inl rfl
  · exact .inr ⟨rfl, h rfl⟩

set_option maxHeartbeats 1000000 in
theorem rowIsPack_any (a : Option Addr) (zs : List Int) (cap : Nat) (w : World) (hl : zs.length ≤ 1048576) (hz : Bytes zs) (hR : RowAt w a zs) :
    Calls Try.prog 14 #[.slice a zs.length cap] w fun e w' => SaysB e (Pack zs) ∧ w = w' := by
  obtain ⟨b, o, ha, hc⟩ := hR
  have HC : Hid (∀ i, i < zs.length → w.cell? ⟨b, o + i, none⟩ = some (.int .u8 (zs.getD i 0))) := hc
  clear hc
  go_enter Try.func14, Try.ntmps14
  go_wp2
  go_loopg [3] zs.length (fun g i wr => w = wr ∧ ∃ k : Nat, k ≤ zs.length ∧ g = zs.length - k ∧ i = .int .i64 k ∧ ∀ i, i < k → zs.getD i 0 < 52)
  case atStart => exact ⟨rfl, 0, Nat.zero_le _, rfl, rfl, fun i h => absurd h (by omega)⟩
  case round =>
    obtain ⟨rfl, k, hk, rfl, rfl, hp⟩ := hrel
    by_cases hlt : k < zs.length
    · obtain rfl := ha (by omega)
      have hlz : (k : Int) < (zs.length : Int) := by omega
      have c1 := HC.out k hlt
      obtain ⟨x, hx⟩ : ∃ x, x = zs.getD k 0 := ⟨_, rfl⟩
      have HX : Hid (x = zs.getD k 0) := hx
      rw [← hx] at c1
      clear hx
      by_cases q : 52 ≤ x
      · go_wp2
        go_ret
        exact ⟨SaysB.no _, rfl⟩
      · go_wp2
        go_roundg (zs.length - (k + 1))
        case measure => go_light; omega
        case rel =>
          go_light
          refine ⟨rfl, k + 1, by omega, rfl, by simp, fun i hi => ?_⟩
          by_cases e : i = k
          · subst e; rw [← HX.out]; omega
          · exact hp i (by omega)
    · obtain rfl : zs.length = k := by omega
      clear hlt
      go_wp2
      go_ret
      exact ⟨SaysB.yes (fun i hi => ⟨(hz i hi).1, hp i hi⟩), rfl⟩

set_option maxHeartbeats 1000000 in
theorem rowsArePack_any (a : Option Addr) (R : List (List Int)) (cap : Nat) (w : World) (hl : R.length ≤ 1048576) (hr : ∀ r, r < R.length → (R.getD r []).length ≤ 1048576) (hz : ∀ r, r < R.length → Bytes (R.getD r [])) (hR : RowsAt w a R) :
    Calls Try.prog 13 #[.slice a R.length cap] w fun e w' => SaysB e (∀ r, r < R.length → Pack (R.getD r [])) ∧ w = w' := by
  obtain ⟨b, o, ha, hc⟩ := hR
  go_enter Try.func13, Try.ntmps13
  go_wp2
  go_loopg [3] R.length (fun g i wr => w = wr ∧ ∃ k : Nat, k ≤ R.length ∧ g = R.length - k ∧ i = .int .i64 k ∧ ∀ i, i < k → Pack (R.getD i []))
  case atStart => exact ⟨rfl, 0, Nat.zero_le _, rfl, rfl, fun i h => absurd h (by omega)⟩
  case round =>
    obtain ⟨rfl, k, hk, rfl, rfl, hp⟩ := hrel
    by_cases hlt : k < R.length
    · obtain rfl := ha (by omega)
      have hlz : (k : Int) < (R.length : Int) := by omega
      obtain ⟨ra, rc, c1, c2, _⟩ := hc k hlt
      have HR : Hid ((R.getD k []).length ≤ 1048576 ∧ Bytes (R.getD k [])) := ⟨hr k hlt, hz k hlt⟩
      obtain ⟨L, hL⟩ : ∃ L, L = R.getD k [] := ⟨_, rfl⟩
      have HL : Hid (L = R.getD k []) := hL
      rw [← hL] at c1 c2 HR
      clear hL
      go_wp2_with (go_at_call 14; refine (rowIsPack_any _ _ _ _ HR.out.1 HR.out.2 c2).mono ?_; rintro e w' ⟨h2, rfl⟩; rcases h2.out with rfl | ⟨rfl, h3⟩)
      · go_ret
        exact ⟨SaysB.no _, rfl⟩
      · go_roundg (R.length - (k + 1))
        case measure => go_light; omega
        case rel =>
          go_light
          refine ⟨rfl, k + 1, by omega, rfl, by simp, fun i hi => ?_⟩
          by_cases e : i = k
          · subst e; rw [← HL.out]; exact h3
          · exact hp i (by omega)
    · obtain rfl : R.length = k := by omega
      clear hlt
      go_wp2
      go_ret
      exact ⟨SaysB.yes (fun i hi => hp i hi), rfl⟩

set_option maxHeartbeats 2000000 in
theorem bytes10 (a : Option Addr) (H : List (List Int)) (ac : Nat) (b : Option Addr) (B : List (List Int)) (bc : Nat) (c : Option Addr) (len cc : Nat) (w : World) (hH : RowsAt w a H) (hB : RowsAt w b B) :
    Calls Try.prog 10 #[.slice a H.length ac, .slice b B.length bc, .slice c len cc] w fun e w' => SaysB e (H.length + vol H + (B.length + vol B) + len ≤ 1048576) ∧ w = w' := by
  by_cases g1 : (1048576 : Int) < (H.length : Int)
  · go_enter Try.func10, Try.ntmps10
    go_wp2
    go_ret
    exact ⟨SaysB.no _, rfl⟩
  obtain ⟨hb, ho, ha, hc⟩ := hH
  obtain ⟨bb, bo, hba, hbc⟩ := hB
  go_enter Try.func10, Try.ntmps10
  go_wp2
  go_loopg [7, 8] H.length (fun g s i wr => w = wr ∧ ∃ k : Nat, k ≤ H.length ∧ g = H.length - k ∧ i = .int .i64 k ∧ s = .int .i64 ((H.length + volUpto H k : Nat) : Int) ∧ H.length + volUpto H k ≤ 1048576)
  case atStart => exact ⟨rfl, 0, Nat.zero_le _, rfl, rfl, rfl, by simp [volUpto]; omega⟩
  case round =>
    obtain ⟨rfl, k, hk, rfl, rfl, rfl, hv⟩ := hrel
    by_cases hlt : k < H.length
    · obtain rfl := ha (by omega)
      have hlz : (k : Int) < (H.length : Int) := by omega
      obtain ⟨ra, rc, c1, _, _⟩ := hc k hlt
      have hs : volUpto H (k + 1) = volUpto H k + (H.getD k []).length := rfl
      have HS : Hid (volUpto H (k + 1) = volUpto H k + (H.getD k []).length) := hs
      clear hs
      obtain ⟨L, hL⟩ : ∃ L, L = (H.getD k []).length := ⟨_, rfl⟩
      rw [← hL] at c1 HS
      clear hL
      by_cases q1 : (1048576 : Int) < (L : Int)
      · go_wp2
        go_ret
        exact ⟨SaysB.no _, rfl⟩
      · by_cases q2 : (1048576 : Int) < ((H.length + volUpto H k : Nat) : Int) + (L : Int)
        · go_wp2
          go_ret
          exact ⟨SaysB.no _, rfl⟩
        · go_wp2
          go_roundg (H.length - (k + 1))
          case measure => go_light; omega
          case rel => go_light; exact ⟨rfl, k + 1, by omega, rfl, by simp, by rw [HS.out]; go_num, by rw [HS.out]; omega⟩
    · obtain rfl : H.length = k := by omega
      clear hlt
      have hv' : H.length + vol H ≤ 1048576 := hv
      by_cases g2 : (1048576 : Int) < (B.length : Int)
      · go_wp2
        go_ret
        exact ⟨SaysB.no _, rfl⟩
      by_cases g3 : (1048576 : Int) < ((H.length + volUpto H H.length : Nat) : Int) + (B.length : Int)
      · go_wp2
        go_ret
        exact ⟨SaysB.no _, rfl⟩
      go_wp2
      go_loopg [7, 9] B.length (fun g s i wr => w = wr ∧ ∃ k : Nat, k ≤ B.length ∧ g = B.length - k ∧ i = .int .i64 k ∧ s = .int .i64 ((H.length + vol H + (B.length + volUpto B k) : Nat) : Int) ∧ H.length + vol H + (B.length + volUpto B k) ≤ 1048576)
      case atStart => exact ⟨rfl, 0, Nat.zero_le _, rfl, rfl, by simp only [volUpto, vol]; go_num, by simp only [volUpto, vol]; omega⟩
      case round =>
        clear hv'
        obtain ⟨rfl, k, hk, rfl, rfl, rfl, hv2⟩ := hrel
        by_cases hlt : k < B.length
        · obtain rfl := hba (by omega)
          have hlz : (k : Int) < (B.length : Int) := by omega
          obtain ⟨ra, rc, c1, _, _⟩ := hbc k hlt
          have hs : volUpto B (k + 1) = volUpto B k + (B.getD k []).length := rfl
          have HS : Hid (volUpto B (k + 1) = volUpto B k + (B.getD k []).length) := hs
          clear hs
          obtain ⟨L, hL⟩ : ∃ L, L = (B.getD k []).length := ⟨_, rfl⟩
          rw [← hL] at c1 HS
          clear hL
          by_cases q1 : (1048576 : Int) < (L : Int)
          · go_wp2
            go_ret
            exact ⟨SaysB.no _, rfl⟩
          · by_cases q2 : (1048576 : Int) < ((H.length + vol H + (B.length + volUpto B k) : Nat) : Int) + (L : Int)
            · go_wp2
              go_ret
              exact ⟨SaysB.no _, rfl⟩
            · go_wp2
              go_roundg (B.length - (k + 1))
              case measure => go_light; omega
              case rel => go_light; exact ⟨rfl, k + 1, by omega, rfl, by simp, by rw [HS.out]; go_num, by rw [HS.out]; omega⟩
        · obtain rfl : B.length = k := by omega
          clear hlt
          have hv3 : H.length + vol H + (B.length + vol B) ≤ 1048576 := hv2
          by_cases q1 : (1048576 : Int) < (len : Int)
          · go_wp2
            go_ret
            exact ⟨SaysB.no _, rfl⟩
          · by_cases q2 : (1048576 : Int) < ((H.length + vol H + (B.length + volUpto B B.length) : Nat) : Int) + (len : Int)
            · go_wp2
              go_ret
              exact ⟨SaysB.no _, rfl⟩
            · go_wp2
              go_ret
              refine ⟨SaysB.yes ?_, rfl⟩
              have : volUpto B B.length = vol B := rfl
              omega

set_option maxHeartbeats 2000000 in
theorem bytes19 (a : Option Addr) (H : List (List Int)) (ac : Nat) (b : Option Addr) (B : List (List Int)) (bc : Nat) (c : Option Addr) (len cc : Nat) (w : World) (hH : RowsAt w a H) (hB : RowsAt w b B) :
    Calls Try.prog 19 #[.slice a H.length ac, .slice b B.length bc, .slice c len cc] w fun e w' => SaysB e (H.length + vol H + (B.length + vol B) + len ≤ 1048576) ∧ w = w' := by
  by_cases g1 : (1048576 : Int) < (H.length : Int)
  · go_enter Try.func19, Try.ntmps19
    go_wp2
    go_ret
    exact ⟨SaysB.no _, rfl⟩
  obtain ⟨hb, ho, ha, hc⟩ := hH
  obtain ⟨bb, bo, hba, hbc⟩ := hB
  go_enter Try.func19, Try.ntmps19
  go_wp2
  go_loopg [7, 8] H.length (fun g s i wr => w = wr ∧ ∃ k : Nat, k ≤ H.length ∧ g = H.length - k ∧ i = .int .i64 k ∧ s = .int .i64 ((H.length + volUpto H k : Nat) : Int) ∧ H.length + volUpto H k ≤ 1048576)
  case atStart => exact ⟨rfl, 0, Nat.zero_le _, rfl, rfl, rfl, by simp [volUpto]; omega⟩
  case round =>
    obtain ⟨rfl, k, hk, rfl, rfl, rfl, hv⟩ := hrel
    by_cases hlt : k < H.length
    · obtain rfl := ha (by omega)
      have hlz : (k : Int) < (H.length : Int) := by omega
      obtain ⟨ra, rc, c1, _, _⟩ := hc k hlt
      have hs : volUpto H (k + 1) = volUpto H k + (H.getD k []).length := rfl
      have HS : Hid (volUpto H (k + 1) = volUpto H k + (H.getD k []).length) := hs
      clear hs
      obtain ⟨L, hL⟩ : ∃ L, L = (H.getD k []).length := ⟨_, rfl⟩
      rw [← hL] at c1 HS
      clear hL
      by_cases q1 : (1048576 : Int) < (L : Int)
      · go_wp2
        go_ret
        exact ⟨SaysB.no _, rfl⟩
      · by_cases q2 : (1048576 : Int) < ((H.length + volUpto H k : Nat) : Int) + (L : Int)
        · go_wp2
          go_ret
          exact ⟨SaysB.no _, rfl⟩
        · go_wp2
          go_roundg (H.length - (k + 1))
          case measure => go_light; omega
          case rel => go_light; exact ⟨rfl, k + 1, by omega, rfl, by simp, by rw [HS.out]; go_num, by rw [HS.out]; omega⟩
    · obtain rfl : H.length = k := by omega
      clear hlt
      have hv' : H.length + vol H ≤ 1048576 := hv
      by_cases g2 : (1048576 : Int) < (B.length : Int)
      · go_wp2
        go_ret
        exact ⟨SaysB.no _, rfl⟩
      by_cases g3 : (1048576 : Int) < ((H.length + volUpto H H.length : Nat) : Int) + (B.length : Int)
      · go_wp2
        go_ret
        exact ⟨SaysB.no _, rfl⟩
      go_wp2
      go_loopg [7, 9] B.length (fun g s i wr => w = wr ∧ ∃ k : Nat, k ≤ B.length ∧ g = B.length - k ∧ i = .int .i64 k ∧ s = .int .i64 ((H.length + vol H + (B.length + volUpto B k) : Nat) : Int) ∧ H.length + vol H + (B.length + volUpto B k) ≤ 1048576)
      case atStart => exact ⟨rfl, 0, Nat.zero_le _, rfl, rfl, by simp only [volUpto, vol]; go_num, by simp only [volUpto, vol]; omega⟩
      case round =>
        clear hv'
        obtain ⟨rfl, k, hk, rfl, rfl, rfl, hv2⟩ := hrel
        by_cases hlt : k < B.length
        · obtain rfl := hba (by omega)
          have hlz : (k : Int) < (B.length : Int) := by omega
          obtain ⟨ra, rc, c1, _, _⟩ := hbc k hlt
          have hs : volUpto B (k + 1) = volUpto B k + (B.getD k []).length := rfl
          have HS : Hid (volUpto B (k + 1) = volUpto B k + (B.getD k []).length) := hs
          clear hs
          obtain ⟨L, hL⟩ : ∃ L, L = (B.getD k []).length := ⟨_, rfl⟩
          rw [← hL] at c1 HS
          clear hL
          by_cases q1 : (1048576 : Int) < (L : Int)
          · go_wp2
            go_ret
            exact ⟨SaysB.no _, rfl⟩
          · by_cases q2 : (1048576 : Int) < ((H.length + vol H + (B.length + volUpto B k) : Nat) : Int) + (L : Int)
            · go_wp2
              go_ret
              exact ⟨SaysB.no _, rfl⟩
            · go_wp2
              go_roundg (B.length - (k + 1))
              case measure => go_light; omega
              case rel => go_light; exact ⟨rfl, k + 1, by omega, rfl, by simp, by rw [HS.out]; go_num, by rw [HS.out]; omega⟩
        · obtain rfl : B.length = k := by omega
          clear hlt
          have hv3 : H.length + vol H + (B.length + vol B) ≤ 1048576 := hv2
          by_cases q1 : (1048576 : Int) < (len : Int)
          · go_wp2
            go_ret
            exact ⟨SaysB.no _, rfl⟩
          · by_cases q2 : (1048576 : Int) < ((H.length + vol H + (B.length + volUpto B B.length) : Nat) : Int) + (len : Int)
            · go_wp2
              go_ret
              exact ⟨SaysB.no _, rfl⟩
            · go_wp2
              go_ret
              refine ⟨SaysB.yes ?_, rfl⟩
              have : volUpto B B.length = vol B := rfl
              omega

end Go.Proofs.Qxb6609030a.Sizes
