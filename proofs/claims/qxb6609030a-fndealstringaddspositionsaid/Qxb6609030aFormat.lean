/-
  formatCards (26), Deal.Format (23), Deal.String (18), by contracts.
-/
import Derived.Test.Qxb6609030aCardText
import Derived.Test.Qxb6609030aBuilder
namespace Go.Proofs.Qxb6609030a.Format
open Go.RowKit Go.Proofs.Qxb6609030a.Text Go.Proofs.Qxb6609030a.Builder
set_option linter.unusedVariables false

theorem rank_at (c : Int) (h0 : 0 ≤ c) (h1 : c < 52) : ∃ r : Nat, c / 4 = (r : Int) ∧ r < 13 ∧ ∀ h, (⟨#[50, 51, 52, 53, 54, 55, 56, 57, 84, 74, 81, 75, 65]⟩ : ByteArray)[r]'h = rankB c := by
  obtain ⟨r, hr⟩ := Int.eq_ofNat_of_zero_le (show 0 ≤ c / 4 by omega)
  refine ⟨r, hr, by omega, fun h => ?_⟩
  unfold rankB
  rw [hr, Int.toNat_natCast]
  have : r < 13 := by omega
  match r, this with
  | 0, _ | 1, _ | 2, _ | 3, _ | 4, _ | 5, _ | 6, _ | 7, _ | 8, _ | 9, _ | 10, _ | 11, _ | 12, _ => rfl

theorem suit_at (c : Int) (h0 : 0 ≤ c) (h1 : c < 52) : ∃ r : Nat, c % 4 = (r : Int) ∧ r < 4 ∧ ∀ h, (⟨#[99, 100, 104, 115]⟩ : ByteArray)[r]'h = suitB c := by
  obtain ⟨r, hr⟩ := Int.eq_ofNat_of_zero_le (show 0 ≤ c % 4 by omega)
  refine ⟨r, hr, by omega, fun h => ?_⟩
  unfold suitB
  rw [hr, Int.toNat_natCast]
  have : r < 4 := by omega
  match r, this with
  | 0, _ | 1, _ | 2, _ | 3, _ => rfl

set_option maxHeartbeats 2000000 in
theorem format_any (B b : Nat) (l : List UInt8) (ra : Option Addr) (zs : List Int) (rc : Nat) (w0 w : World) (hlen : l.length + 2 * zs.length ≤ 100000000) (hp : Pack zs) (hr : RowAt w0 ra zs)
    (hb0 : Below w0.heap.size w0 w) (hB0 : w0.heap.size ≤ B) (hBw : B ≤ w.heap.size) (hb : Lib.IsBuilder 47 5 B b (Lib.byteCells l) w) :
    Calls Try.prog 26 #[.pointer (some ⟨b, 0, none⟩), .slice ra zs.length rc] w fun e w' => e = .returned (.tuple #[]) ∧ Lib.IsBuilder 47 5 B b (Lib.byteCells (l ++ text zs)) w' ∧ Below B w w' := by
  obtain ⟨cb, co, ha, hc⟩ := hr
  have HC : Hid (∀ i, i < zs.length → w0.cell? ⟨cb, co + i, none⟩ = some (.int .u8 (zs.getD i 0))) := hc
  have HP : Hid (Pack zs) := hp
  clear hc hp
  go_enter Try.func26, Try.ntmps26
  go_wp2
  go_loopg [8] zs.length (fun g i wr => ∃ k : Nat, k ≤ zs.length ∧ g = zs.length - k ∧ i = .int .i64 k ∧ Lib.IsBuilder 47 5 B b (Lib.byteCells (l ++ text (zs.take k))) wr ∧ Below B w wr)
  case atStart => exact ⟨0, Nat.zero_le _, rfl, rfl, by simpa [text] using hb, Below.refl _ _⟩
  case round =>
    clear hb
    obtain ⟨k, hk, rfl, rfl, hb, hB⟩ := hrel
    by_cases hlt : k < zs.length
    · obtain rfl := ha (by omega)
      have hlz : (k : Int) < (zs.length : Int) := by omega
      obtain ⟨c, hce⟩ : ∃ c, c = zs.getD k 0 := ⟨_, rfl⟩
      have HV : Hid (c = zs.getD k 0) := hce
      have t1 : wr.cell? ⟨cb, co + k, none⟩ = some (.int .u8 c) := by
        rw [hce]
        have h0 := HC.out k hlt
        exact (hB.cell (Nat.lt_of_lt_of_le (block_lt_of_cell h0) hB0)).trans ((hb0.cell (block_lt_of_cell h0)).trans h0)
      have p1 := HP.out k hlt
      rw [← hce] at p1
      clear hce
      obtain ⟨p0, p2⟩ := p1
      obtain ⟨r, hr, hr13, er⟩ := rank_at c p0 p2
      obtain ⟨s, hs, hs4, es⟩ := suit_at c p0 p2
      have k8 := fun w => CardWalks.rank_any c w p0 (by omega)
      have k9 := fun w => CardWalks.suit_any c w p0 (by omega)
      rw [hr] at k8
      rw [hs] at k9
      have HE : Hid ((∀ h, (⟨#[50, 51, 52, 53, 54, 55, 56, 57, 84, 74, 81, 75, 65]⟩ : ByteArray)[r]'h = rankB c) ∧ (∀ h, (⟨#[99, 100, 104, 115]⟩ : ByteArray)[s]'h = suitB c)) := ⟨er, es⟩
      clear er es hr hs
      have hl1 : (Lib.byteCells (l ++ text (zs.take k))).length + 1 ≤ 140737488355328 := by
        rw [Lib.byteCells_length, List.length_append, text_length, List.length_take]; omega
      go_wp2_with (go_at_call 8; refine (k8 _).mono ?_; rintro e w2 ⟨rfl, hw2⟩; obtain rfl := hw2.symm)
      refine (writeByte_any B b _ _ _ hb hl1 (Nat.le_trans hBw hB.size)).mono ?_
      rintro e w3 ⟨rfl, hb3, hB3⟩
      have hBB3 := hB.trans hB3
      clear t1 hB hB3 hb
      go_wp2_with (go_at_call 9; refine (k9 _).mono ?_; rintro e w2 ⟨rfl, hw2⟩; obtain rfl := hw2.symm)
      refine (writeByte_any B b _ _ _ (.inr hb3) (by rw [List.length_append, List.length_singleton, Lib.byteCells_length, List.length_append, text_length, List.length_take]; omega) (Nat.le_trans hBw hBB3.size)).mono ?_
      rintro e w4 ⟨rfl, hb4, hB4⟩
      have hBB4 := hBB3.trans hB4
      clear hb3 hBB3 hB4
      go_wp2
      go_roundg (zs.length - (k + 1))
      case measure => go_light; omega
      case rel =>
        go_light
        refine ⟨k + 1, by omega, rfl, by simp, .inr ?_, hBB4⟩
        have e1 : Lib.byteCells (l ++ text (zs.take (k + 1))) = Lib.byteCells (l ++ text (zs.take k)) ++ [Value.int .u8 (rankB c).toNat] ++ [Value.int .u8 (suitB c).toNat] := by
          rw [take_snoc zs k hlt, text_snoc, ← HV.out, List.append_assoc, ← List.append_assoc l, Lib.byteCells_append, List.append_assoc]; rfl
        rw [e1]
        rw [HE.out.1, HE.out.2] at hb4
        exact hb4
    · obtain rfl : zs.length = k := by omega
      clear hlt
      rw [List.take_length] at hb
      go_wp2
      go_end0
      exact ⟨rfl, hb, hB⟩

theorem shown_any (k : Int) (w : World) : Calls Try.prog 24 #[.int .i64 k] w fun e w' => e = .returned (.bool true) ∧ w = w' := by
  go_enter Try.func24, Try.ntmps24
  go_wp2
  go_ret
  exact ⟨rfl, rfl⟩

theorem byteCells_snoc (l : List UInt8) (x : UInt8) : Lib.byteCells (l ++ [x]) = Lib.byteCells l ++ [Value.int .u8 x.toNat] := by rw [Lib.byteCells_append]; rfl

set_option maxHeartbeats 4000000 in
theorem deal_any (ha ba : Option Addr) (H B : List (List Int)) (hc bc : Nat) (w : World) (hH : RowsAt w ha H) (hBd : RowsAt w ba B) (hpH : ∀ r, r < H.length → Pack (H.getD r [])) (hpB : ∀ r, r < B.length → Pack (B.getD r []))
    (hsz : H.length + vol H + (B.length + vol B) ≤ 2000000) (hbc : B.length ≤ bc) (hbn : ba = none → B.length = 0 ∧ bc = 0) :
    Calls Try.prog 23 #[.agg #[.slice ha H.length hc, .slice ba B.length bc], .func (.func 24) #[] #[], .int .i64 ((B.length : Int) - 1)] w fun e w' => e = .returned (.string ⟨(dealText H B).toArray⟩) ∧ Below w.heap.size w w' := by
  obtain ⟨w1, hw1e⟩ : ∃ w1, w1 = (w.alloc (.cells #[.slice ha H.length hc, .slice ba B.length bc] 37)).alloc (.cells #[.pointer none, .slice none 0 0] 47) := ⟨_, rfl⟩
  have hw1 : Below w.heap.size w w1 := by rw [hw1e]; exact ((Below.refl _ _).alloc (Nat.le_refl _) _).alloc (by simp) _
  have hs1 : w1.heap.size = w.heap.size + 2 := by rw [hw1e]; simp
  have hd1 : w1.cell? ⟨w.heap.size, 1, none⟩ = some (.slice ba B.length bc) := by
    rw [hw1e, World.cell?_alloc_past _ _ _ (by simp)]; simp
  have hbu : Lib.IsBuilder 47 5 (w.heap.size + 1) (w.heap.size + 1) (Lib.byteCells []) w1 := by
    have := Lib.fresh_isBuilder 47 5 (w.alloc (.cells #[.slice ha H.length hc, .slice ba B.length bc] 37))
    rw [World.size_alloc] at this
    rw [hw1e]; exact this
  have HW : Hid (w1 = (w.alloc (.cells #[.slice ha H.length hc, .slice ba B.length bc] 37)).alloc (.cells #[.pointer none, .slice none 0 0] 47)) := hw1e
  clear hw1e
  obtain ⟨hb, ho, hha, hhc⟩ := hH
  obtain ⟨bb, bo, hba, hbcell⟩ := hBd
  have HH : Hid (∀ r, r < H.length → Pack (H.getD r [])) := hpH
  have HB : Hid (∀ r, r < B.length → Pack (B.getD r [])) := hpB
  clear hpH hpB
  go_enter Try.func23, Try.ntmps23
  go_wp2_with fail
  rw [← HW.out]
  clear HW
  go_loopg [15] H.length (fun g i wr => ∃ k : Nat, k ≤ H.length ∧ g = H.length - k ∧ i = .int .i64 k ∧ Lib.IsBuilder 47 5 (w.heap.size + 1) (w.heap.size + 1) (Lib.byteCells (holeUpto H k)) wr ∧ Below (w.heap.size + 1) w1 wr)
  case atStart => exact ⟨0, Nat.zero_le _, rfl, rfl, hbu, Below.refl _ _⟩
  case round =>
    clear hbu
    obtain ⟨k, hk, rfl, rfl, hbu, hB⟩ := hrel
    by_cases hlt : k < H.length
    · obtain rfl := hha (by omega)
      have hlz : (k : Int) < (H.length : Int) := by omega
      obtain ⟨ra, rc, c1, c2, c3⟩ := hhc k hlt
      have hWr : Below w.heap.size w wr := hw1.trans (hB.mono (by omega))
      have t1 := (hWr.cell (block_lt_of_cell c1)).trans c1
      have hpk := HH.out k hlt
      have hvk := vol_row H hlt
      have hul := holeUpto_length H k
      have hum := volUpto_mono H hk
      have hvol : volUpto H H.length = vol H := rfl
      have hsucc : holeUpto H (k + 1) = holeUpto H k ++ (if 0 < k then [124] else []) ++ text (H.getD k []) := rfl
      obtain ⟨L, hL⟩ : ∃ L, L = H.getD k [] := ⟨_, rfl⟩
      rw [← hL] at t1 c2 hpk hvk hsucc
      have HS : Hid (holeUpto H (k + 1) = holeUpto H k ++ (if 0 < k then [124] else []) ++ text L) := hsucc
      clear hL hsucc c1 c3
      have hbs : Below w.heap.size w wr := hWr
      by_cases hk0 : (0 : Int) < (k : Int)
      · go_wp2_with fail
        refine (writeByte_any (w.heap.size + 1) (w.heap.size + 1) _ 124 _ hbu (by rw [Lib.byteCells_length]; omega) (by have := hB.size; omega)).mono ?_
        rintro e w3 ⟨rfl, hb3, hB3⟩
        have hBB3 := hB.trans hB3
        have hW3 : Below w.heap.size w w3 := hw1.trans (hBB3.mono (by omega))
        have hb3' : Lib.IsBuilder 47 5 (w.heap.size + 1) (w.heap.size + 1) (Lib.byteCells (holeUpto H k ++ [124])) w3 := by rw [byteCells_snoc]; exact .inr hb3
        clear hbu hB hB3 hWr hbs hb3 t1
        go_wp2_with (go_at_call 24; refine (shown_any _ _).mono ?_; rintro e w' ⟨rfl, rfl⟩)
        refine (format_any (w.heap.size + 1) (w.heap.size + 1) (holeUpto H k ++ [124]) ra L rc w w3 (by rw [List.length_append, List.length_singleton]; omega) hpk c2 hW3 (by omega) (by have := hBB3.size; omega) hb3').mono ?_
        rintro e w4 ⟨rfl, hb4, hB4⟩
        have hBB4 := hBB3.trans hB4
        clear hb3' hB4 hBB3 hW3
        go_wp2
        go_roundg (H.length - (k + 1))
        case measure => go_light; omega
        case rel => go_light; exact ⟨k + 1, by omega, rfl, by first | go_num | (simp; omega), by rw [HS.out, if_pos (by omega)]; exact hb4, hBB4⟩
      · go_wp2_with (go_at_call 24; refine (shown_any _ _).mono ?_; rintro e w' ⟨rfl, rfl⟩)
        refine (format_any (w.heap.size + 1) (w.heap.size + 1) (holeUpto H k) ra L rc w wr (by omega) hpk c2 hWr (by omega) (by have := hB.size; omega) hbu).mono ?_
        rintro e w4 ⟨rfl, hb4, hB4⟩
        have hBB4 := hB.trans hB4
        clear hbu hB4 hB hWr hbs
        go_wp2
        go_roundg (H.length - (k + 1))
        case measure => go_light; omega
        case rel => go_light; exact ⟨k + 1, by omega, rfl, by first | go_num | (simp; omega), by rw [HS.out, if_neg (by omega), List.append_nil]; exact hb4, hBB4⟩
    · obtain rfl : H.length = k := by omega
      clear hlt
      have t1 : wr.cell? ⟨w.heap.size, 1, none⟩ = some (.slice ba B.length bc) := (hB.cell (by simp)).trans hd1
      have hbl : (B.length : Int) ≤ 2000000 := by omega
      go_wp2
      clear t1
      go_loopg [35] B.length (fun g i wx => ∃ k : Nat, k ≤ B.length ∧ g = B.length - k ∧ i = .int .i64 k ∧ Lib.IsBuilder 47 5 (w.heap.size + 1) (w.heap.size + 1) (Lib.byteCells (holeUpto H H.length ++ boardUpto B k)) wx ∧ Below (w.heap.size + 1) w1 wx)
      case atStart => exact ⟨0, Nat.zero_le _, rfl, rfl, by simpa [boardUpto] using hbu, hB⟩
      case round =>
        clear hbu hB
        obtain ⟨k, hk, rfl, rfl, hbu, hB⟩ := hrel
        by_cases hlt : k < B.length
        · obtain rfl := hba (by omega)
          have hlz : (k : Int) < (B.length : Int) := by omega
          obtain ⟨ra, rc, c1, c2, c3⟩ := hbcell k hlt
          have hWr : Below w.heap.size w wr := hw1.trans (hB.mono (by omega))
          have t1 := (hWr.cell (block_lt_of_cell c1)).trans c1
          have hpk := HB.out k hlt
          have hvk := vol_row B hlt
          have hul := holeUpto_length H H.length
          have hub := boardUpto_length B k
          have hum := volUpto_mono B (show k ≤ B.length by omega)
          have hvol : volUpto H H.length = vol H := rfl
          have hvolB : volUpto B B.length = vol B := rfl
          have hsucc : boardUpto B (k + 1) = boardUpto B k ++ (if 0 < k ∨ 0 < (B.getD k []).length then [47] else []) ++ text (B.getD k []) := rfl
          obtain ⟨L, hL⟩ : ∃ L, L = B.getD k [] := ⟨_, rfl⟩
          rw [← hL] at t1 c2 hpk hvk hsucc
          have HS : Hid (boardUpto B (k + 1) = boardUpto B k ++ (if 0 < k ∨ 0 < L.length then [47] else []) ++ text L) := hsucc
          have hlen1 : (holeUpto H H.length ++ boardUpto B k).length + 1 + 2 * L.length ≤ 100000000 := by rw [List.length_append]; omega
          clear hL hsucc c1 c3 hvol hvolB hul hub hum
          by_cases hk0 : (0 : Int) < (k : Int)
          · go_wp2_with fail
            refine (writeByte_any (w.heap.size + 1) (w.heap.size + 1) _ 47 _ hbu (by rw [Lib.byteCells_length]; omega) (by have := hB.size; omega)).mono ?_
            rintro e w3 ⟨rfl, hb3, hB3⟩
            have hBB3 := hB.trans hB3
            have hW3 : Below w.heap.size w w3 := hw1.trans (hBB3.mono (by omega))
            have hb3' : Lib.IsBuilder 47 5 (w.heap.size + 1) (w.heap.size + 1) (Lib.byteCells (holeUpto H H.length ++ boardUpto B k ++ [47])) w3 := by rw [byteCells_snoc]; exact .inr hb3
            clear hbu hB hB3 hWr hb3 t1
            go_wp2_with fail
            refine (format_any (w.heap.size + 1) (w.heap.size + 1) (holeUpto H H.length ++ boardUpto B k ++ [47]) ra L rc w w3 (by rw [List.length_append, List.length_singleton]; omega) hpk c2 hW3 (by omega) (by have := hBB3.size; omega) hb3').mono ?_
            rintro e w4 ⟨rfl, hb4, hB4⟩
            have hBB4 := hBB3.trans hB4
            clear hb3' hB4 hBB3 hW3
            go_wp2
            go_roundg (B.length - (k + 1))
            case measure => go_light; omega
            case rel => go_light; exact ⟨k + 1, by omega, rfl, by first | go_num | (simp; omega), by rw [HS.out, if_pos (by omega)]; simpa [List.append_assoc] using hb4, hBB4⟩
          · by_cases hl0 : (0 : Int) < (L.length : Int)
            · go_wp2_with fail
              refine (writeByte_any (w.heap.size + 1) (w.heap.size + 1) _ 47 _ hbu (by rw [Lib.byteCells_length]; omega) (by have := hB.size; omega)).mono ?_
              rintro e w3 ⟨rfl, hb3, hB3⟩
              have hBB3 := hB.trans hB3
              have hW3 : Below w.heap.size w w3 := hw1.trans (hBB3.mono (by omega))
              have hb3' : Lib.IsBuilder 47 5 (w.heap.size + 1) (w.heap.size + 1) (Lib.byteCells (holeUpto H H.length ++ boardUpto B k ++ [47])) w3 := by rw [byteCells_snoc]; exact .inr hb3
              clear hbu hB hB3 hWr hb3 t1
              go_wp2_with fail
              refine (format_any (w.heap.size + 1) (w.heap.size + 1) (holeUpto H H.length ++ boardUpto B k ++ [47]) ra L rc w w3 (by rw [List.length_append, List.length_singleton]; omega) hpk c2 hW3 (by omega) (by have := hBB3.size; omega) hb3').mono ?_
              rintro e w4 ⟨rfl, hb4, hB4⟩
              have hBB4 := hBB3.trans hB4
              clear hb3' hB4 hBB3 hW3
              go_wp2
              go_roundg (B.length - (k + 1))
              case measure => go_light; omega
              case rel => go_light; exact ⟨k + 1, by omega, rfl, by first | go_num | (simp; omega), by rw [HS.out, if_pos (by omega)]; simpa [List.append_assoc] using hb4, hBB4⟩
            · go_wp2_with fail
              refine (format_any (w.heap.size + 1) (w.heap.size + 1) (holeUpto H H.length ++ boardUpto B k) ra L rc w wr (by omega) hpk c2 hWr (by omega) (by have := hB.size; omega) hbu).mono ?_
              rintro e w4 ⟨rfl, hb4, hB4⟩
              have hBB4 := hB.trans hB4
              clear hbu hB4 hB hWr
              go_wp2
              go_roundg (B.length - (k + 1))
              case measure => go_light; omega
              case rel => go_light; exact ⟨k + 1, by omega, rfl, by first | go_num | (simp; omega), by rw [HS.out, if_neg (by omega), List.append_nil, ← List.append_assoc]; exact hb4, hBB4⟩
        · obtain rfl : B.length = k := by omega
          clear hlt
          go_wp2_with fail
          refine (string_any (w.heap.size + 1) (w.heap.size + 1) (holeUpto H H.length ++ boardUpto B B.length) _ (by have := hB.size; omega) hbu).mono ?_
          rintro e w4 ⟨rfl, hB4⟩
          have hfin : Below w.heap.size w w4 := hw1.trans ((hB.trans hB4).mono (by omega))
          go_wp2
          go_ret
          exact ⟨rfl, hfin⟩

set_option maxHeartbeats 1000000 in
theorem string_deal (ha ba : Option Addr) (H B : List (List Int)) (hc bc : Nat) (w : World) (hH : RowsAt w ha H) (hBd : RowsAt w ba B) (hpH : ∀ r, r < H.length → Pack (H.getD r [])) (hpB : ∀ r, r < B.length → Pack (B.getD r []))
    (hsz : H.length + vol H + (B.length + vol B) ≤ 2000000) (hbc : B.length ≤ bc) (hbn : ba = none → B.length = 0 ∧ bc = 0) :
    Calls Try.prog 18 #[.agg #[.slice ha H.length hc, .slice ba B.length bc]] w fun e w' => e = .returned (.string ⟨(dealText H B).toArray⟩) ∧ Below w.heap.size w w' := by
  have hbl : (B.length : Int) ≤ 2000000 := by omega
  have hw1 : ∀ o, Below w.heap.size w (w.alloc o) := fun o => (Below.refl _ _).alloc (Nat.le_refl _) _
  go_enter Try.func18, Try.ntmps18
  go_wp2_with fail
  refine (deal_any ha ba H B hc bc _ (hH.later (hw1 _)) (hBd.later (hw1 _)) hpH hpB hsz hbc hbn).mono ?_
  rintro e w2 ⟨rfl, hB2⟩
  go_wp2
  go_ret
  exact ⟨rfl, (hw1 _).trans (hB2.mono (by simp))⟩

end Go.Proofs.Qxb6609030a.Format
