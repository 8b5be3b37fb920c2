/-
  The walk of FnDealStringAddsRound (5).
-/
import Derived.Test.Qxb6609030aSizes
import Derived.Test.Qxb6609030aCopies
import Derived.Test.Qxb6609030aFormat
import Derived.Test.Qxb6609030aSlash
import Derived.Deep.RegionHeld3
namespace Go.Proofs.Qxb6609030a.RoundWalk
open Go.RowKit Go.Proofs.Qxb6609030a.Text Go.Proofs.Qxb6609030a.Sizes Go.Proofs.Qxb6609030a.Copies Go.Proofs.Qxb6609030a.CardText Go.Proofs.Qxb6609030a.Format
set_option linter.unusedVariables false

theorem ba_append (l1 l2 : List UInt8) : (⟨l1.toArray⟩ ++ ⟨l2.toArray⟩ : ByteArray) = ⟨(l1 ++ l2).toArray⟩ := by
  apply ByteArray.ext
  simp

theorem held_later {w7 w' w8 : World} {p q r : Nat} {v0 v1 v2 v3 v4 v5 : Value} (h : Below w7.heap.size w7 w' ∧ w'.cell? ⟨p, 0, none⟩ = some v0 ∧ w'.cell? ⟨p, 1, none⟩ = some v1 ∧ w'.cell? ⟨q, 0, none⟩ = some v2 ∧ w'.cell? ⟨q, 1, none⟩ = some v3 ∧ w'.cell? ⟨r, 0, none⟩ = some v4 ∧ w'.cell? ⟨r, 1, none⟩ = some v5)
    (hb : Below w'.heap.size w' w8) (hp : p < w7.heap.size) (hq : q < w7.heap.size) (hr : r < w7.heap.size) :
    Below w7.heap.size w7 w8 ∧ w8.cell? ⟨p, 0, none⟩ = some v0 ∧ w8.cell? ⟨p, 1, none⟩ = some v1 ∧ w8.cell? ⟨q, 0, none⟩ = some v2 ∧ w8.cell? ⟨q, 1, none⟩ = some v3 ∧ w8.cell? ⟨r, 0, none⟩ = some v4 ∧ w8.cell? ⟨r, 1, none⟩ = some v5 := by
  obtain ⟨h0, h1, h2, h3, h4, h5, h6⟩ := h
  have hs := h0.size
  exact ⟨h0.trans (hb.mono hs), (hb.cell (block_lt_of_cell h1)).trans h1, (hb.cell (block_lt_of_cell h2)).trans h2, (hb.cell (block_lt_of_cell h3)).trans h3, (hb.cell (block_lt_of_cell h4)).trans h4, (hb.cell (block_lt_of_cell h5)).trans h5, (hb.cell (block_lt_of_cell h6)).trans h6⟩

theorem held_fin {w w7 w8 : World} {q : Prop} (h7 : Below w.heap.size w w7) (h : Below w7.heap.size w7 w8 ∧ q) : Below w.heap.size w w8 := h7.trans (h.1.mono h7.size)

set_option maxHeartbeats 8000000 in
theorem round_walk (a0 a1 a2 : Option Addr) (H B : List (List Int)) (x : List Int) (c0 c1 c2 : Nat) (w : World)
    (hH : RowsAt w a0 H) (hn0 : a0 = none → H.length = 0 ∧ c0 = 0) (bH : ∀ r, r < H.length → Bytes (H.getD r []))
    (hB : RowsAt w a1 B) (hn1 : a1 = none → B.length = 0 ∧ c1 = 0) (bB : ∀ r, r < B.length → Bytes (B.getD r []))
    (hX : RowAt w a2 x) (hn2 : a2 = none → x.length = 0 ∧ c2 = 0) (bX : Bytes x) :
    Calls Try.prog 5 #[.slice a0 H.length c0, .slice a1 B.length c1, .slice a2 x.length c2] w fun e w' => e = .returned (.bool true) ∧ Below w.heap.size w w' := by
  go_enter Try.func5, Try.ntmps5
  go_wp2_with fail
  refine (bytes10 _ _ _ _ _ _ _ _ _ _ hH hB).mono ?_
  rintro e w' ⟨h2, rfl⟩
  rcases h2.out with rfl | ⟨rfl, hvol⟩
  · go_wp2
    go_ret
    exact ⟨rfl, Below.refl _ _⟩
  clear h2
  have lH : H.length ≤ 1048576 := by omega
  have lB : B.length ≤ 1048576 := by omega
  have lX : x.length ≤ 1048576 := by omega
  have rH : ∀ r, r < H.length → (H.getD r []).length ≤ 1048576 := fun r hr => by have := vol_row H hr; omega
  have rB : ∀ r, r < B.length → (B.getD r []).length ≤ 1048576 := fun r hr => by have := vol_row B hr; omega
  go_wp2_with fail
  refine (grow_any 0 _ _ _ _ (by omega) (by omega) hH).mono ?_
  rintro e w' ⟨⟨t1, rfl, g0, g1⟩, rfl⟩
  go_wp2_with fail
  refine (grow_any t1 _ _ _ _ g0 g1 hB).mono ?_
  rintro e w' ⟨⟨t2, rfl, g2, g3⟩, rfl⟩
  go_wp2_with fail
  refine (growRow_any t2 _ _ _ _ g2 g3).mono ?_
  rintro e w' ⟨⟨t3, rfl, g4, g5⟩, rfl⟩
  by_cases q : 1048576 < t3
  · go_wp2
    go_ret
    exact ⟨rfl, Below.refl _ _⟩
  go_wp2_with fail
  refine (rowsArePack_any _ _ _ _ lH rH bH hH).mono ?_
  rintro e w' ⟨h2, rfl⟩
  rcases h2.out with rfl | ⟨rfl, pH⟩
  · go_wp2
    go_ret
    exact ⟨rfl, Below.refl _ _⟩
  clear h2
  go_wp2_with fail
  refine (rowsArePack_any _ _ _ _ lB rB bB hB).mono ?_
  rintro e w' ⟨h2, rfl⟩
  rcases h2.out with rfl | ⟨rfl, pB⟩
  · go_wp2
    go_ret
    exact ⟨rfl, Below.refl _ _⟩
  clear h2
  go_wp2_with fail
  refine (rowIsPack_any _ _ _ _ lX bX hX).mono ?_
  rintro e w' ⟨h2, rfl⟩
  rcases h2.out with rfl | ⟨rfl, pX⟩
  · go_wp2
    go_ret
    exact ⟨rfl, Below.refl _ _⟩
  clear h2
  have HP : Hid ((∀ r, r < H.length → Pack (H.getD r [])) ∧ (∀ r, r < B.length → Pack (B.getD r [])) ∧ Pack x) := ⟨pH, pB, pX⟩
  clear pH pB pX bH bB bX
  go_wp2_with fail
  refine (rows_any a0 H c0 w lH rH hn0 hH).mono ?_
  rintro e w2 ⟨hnr, hb2⟩
  obtain ⟨ha, hc, rfl, dH, nH, kH⟩ := hnr
  go_wp2_with fail
  refine (rows_any a1 B c1 w2 lB rB hn1 (hB.later hb2)).mono ?_
  rintro e w3 ⟨hnr, hb3⟩
  obtain ⟨ba, bc, rfl, dB, nB, kB⟩ := hnr
  have hb03 : Below w.heap.size w w3 := hb2.trans (hb3.mono hb2.size)
  have dH3 := dH.later hb3
  have hX3 := hX.later hb03
  clear hH hB hX dH hb2 hb3
  go_wp2_with fail
  have hD : Below w3.heap.size w3 (w3.alloc (.cells #[.slice ha H.length hc, .slice ba B.length bc] 37)) := (Below.refl _ _).alloc (Nat.le_refl _) _
  refine (row_any a2 x c2 _ lX hn2 (hX3.later hD)).mono ?_
  rintro e w4 ⟨hnr, hb4⟩
  obtain ⟨xa, xc, rfl, dX, nX, kX⟩ := hnr
  rw [World.size_alloc] at hb4
  have hD4 : Below w3.heap.size w3 w4 := hD.trans (hb4.mono (by omega))
  have b04 : Below w.heap.size w w4 := hb03.trans (hD4.mono hb03.size)
  have dH4 := dH3.later hD4
  have dB4 := dB.later hD4
  have s34 : w3.heap.size < w4.heap.size := by have := hb4.size; simp at this; omega
  have cD0 : w4.cell? ⟨w3.heap.size, 0, none⟩ = some (.slice ha H.length hc) := by rw [hb4.cell (by simp)]; simp
  have cD1 : w4.cell? ⟨w3.heap.size, 1, none⟩ = some (.slice ba B.length bc) := by rw [hb4.cell (by simp)]; simp
  clear hD hb4 hD4 dH3 dB hX3 hb03
  have hmk := run_make_row' (P := Try.prog) 34 38 (.slice none 0 0) 24 Try.underlying34 info38 rfl .i64 .i64 (B.length + 1) (by omega) (by omega)
  have ec : ((B.length + 1 : Nat) : Int) = (B.length : Int) + 1 := by omega
  rw [ec] at hmk
  clear ec
  go_wp2
  clear hmk
  have hM0 := mid_start w4 (B.length + 1) (B ++ [x])
  have dBk := dB4
  obtain ⟨bb, bo, hba, hbcell⟩ := dB4
  go_loopg [10] B.length (fun g i wr => ∃ k : Nat, k ≤ B.length ∧ g = B.length - k ∧ i = .int .i64 k ∧ Mid wr w4.heap.size (B.length + 1) (B ++ [x]) k ∧ Below w4.heap.size w4 wr)
  case atStart => exact ⟨0, Nat.zero_le _, rfl, rfl, hM0, (Below.refl _ _).alloc (Nat.le_refl _) _⟩
  case round =>
    clear hM0
    obtain ⟨k, hk, rfl, rfl, hM, hBr⟩ := hrel
    have t1 : wr.cell? ⟨w3.heap.size, 1, none⟩ = some (.slice ba B.length bc) := (hBr.cell (by exact s34)).trans cD1
    by_cases hlt : k < B.length
    · obtain rfl := hba (by omega)
      have hlz : (k : Int) < (B.length : Int) := by omega
      obtain ⟨ra, rc, e1, e2, e3⟩ := hbcell k hlt
      have t2 := (hBr.cell (block_lt_of_cell e1)).trans e1
      have d2 := e2.later hBr
      obtain ⟨⟨qa, ql, qc, s1⟩, s2, s3⟩ := hM.slot (i := k) (by omega)
      clear e1 e2
      obtain ⟨L, hL⟩ : ∃ L, L = B.getD k [] := ⟨_, rfl⟩
      have HL : Hid (L = B.getD k []) := hL
      rw [← hL] at t2 d2 e3
      clear hL
      go_wp2
      go_roundg (B.length - (k + 1))
      case measure => go_light; omega
      case rel =>
        go_light
        have hst := hM.step (a := ra) (c := rc) (by rw [getD_snoc_lt hlt, ← HL.out]; exact d2) (by rw [getD_snoc_lt hlt, ← HL.out]; exact e3)
        rw [getD_snoc_lt hlt, ← HL.out] at hst
        exact ⟨k + 1, by omega, rfl, by simp, hst, hBr.setCell (Nat.le_refl _) _⟩
    · obtain rfl : B.length = k := by omega
      clear hlt
      obtain ⟨⟨qa, ql, qc, s1⟩, s2, s3⟩ := hM.slot (i := B.length) (by omega)
      have dXr := dX.later hBr
      have hst := hM.step (a := xa) (c := xc) (by rw [getD_snoc_at]; exact dXr) (by rw [getD_snoc_at]; exact nX)
      rw [getD_snoc_at] at hst
      have hB5 := hBr.setCell (p := ⟨w4.heap.size, B.length, none⟩) (Nat.le_refl _) (.slice xa x.length xc)
      have cO : wr.cell? ⟨w3.heap.size, 0, none⟩ = some (.slice ha H.length hc) := (hBr.cell (by exact s34)).trans cD0
      clear hM hBr dXr
      go_wp2_with fail
      have hsz5 : (wr.setCell ⟨w4.heap.size, B.length, none⟩ (.slice xa x.length xc)).heap.size = wr.heap.size := by simp
      have dN5 : RowsAt (wr.setCell ⟨w4.heap.size, B.length, none⟩ (.slice xa x.length xc)) (some ⟨w4.heap.size, 0, none⟩) (B ++ [x]) := by
        refine Mid.done ?_
        rw [List.length_append, List.length_singleton]
        exact hst
      have hw45 := hB5.size
      obtain ⟨w5, hw5e⟩ : ∃ w5, w5 = wr.setCell ⟨w4.heap.size, B.length, none⟩ (.slice xa x.length xc) := ⟨_, rfl⟩
      rw [← hw5e] at hsz5 dN5 hB5 hw45 ⊢
      have HW5 : Hid (w5.heap.size = wr.heap.size) := hsz5
      have hDD : Below w5.heap.size w5 (w5.alloc (.cells #[.slice ha H.length hc, .slice (some ⟨w4.heap.size, 0, none⟩) (B.length + 1) (B.length + 1)] 37)) := (Below.refl _ _).alloc (Nat.le_refl _) _
      have h45 : Below w4.heap.size w4 (w5.alloc (.cells #[.slice ha H.length hc, .slice (some ⟨w4.heap.size, 0, none⟩) (B.length + 1) (B.length + 1)] 37)) := hB5.trans (hDD.mono hw45)
      refine (text_any xa x xc _ lX HP.out.2.2 (dX.later h45)).mono ?_
      rintro e w6 ⟨rfl, hb6⟩
      rw [World.size_alloc] at hb6
      have h56 : Below w5.heap.size w5 w6 := hDD.trans (hb6.mono (by omega))
      have h46 : Below w4.heap.size w4 w6 := hB5.trans (h56.mono hw45)
      have b06 : Below w.heap.size w w6 := b04.trans (h46.mono b04.size)
      have s56 : wr.heap.size < w6.heap.size := by have := hb6.size; rw [World.size_alloc] at this; omega
      have s36 : w3.heap.size < w6.heap.size := by have := h46.size; omega
      have f0 : w6.cell? ⟨wr.heap.size, 0, none⟩ = some (.slice ha H.length hc) := by rw [hb6.cell (by simp [hsz5]), ← hsz5]; simp
      have f1 : w6.cell? ⟨wr.heap.size, 1, none⟩ = some (.slice (some ⟨w4.heap.size, 0, none⟩) (B.length + 1) (B.length + 1)) := by rw [hb6.cell (by simp [hsz5]), ← hsz5]; simp
      have f2 : w6.cell? ⟨w3.heap.size, 0, none⟩ = some (.slice ha H.length hc) := (h46.cell (by exact s34)).trans cD0
      have f3 : w6.cell? ⟨w3.heap.size, 1, none⟩ = some (.slice ba B.length bc) := (h46.cell (by exact s34)).trans cD1
      have rH6 := dH4.later h46
      have rB6 := dBk.later h46
      have rN6 := dN5.later h56
      have rX6 := dX.later h46
      clear hDD h45 hb6 h56 h46 hB5 hw45 dN5 hst s1 s2 s3 t1 cD0 cD1 cO dH4 dBk dX b04 s34 hsz5 hw5e
      have eTX : ∃ TX : ByteArray, TX = ⟨(text x).toArray⟩ := ⟨_, rfl⟩
      obtain ⟨TX, hTX⟩ := eTX
      have eDA : ∃ DA : ByteArray, DA = ⟨(dealText H B).toArray⟩ := ⟨_, rfl⟩
      obtain ⟨DA, hDA⟩ := eDA
      have zTX : TX.size ≤ 10000000 := by rw [hTX]; show (text x).length ≤ _; rw [text_length]; omega
      have zDA : DA.size ≤ 10000000 := by rw [hDA]; show (dealText H B).length ≤ _; have := dealText_length H B; omega
      have HT : Hid (TX = ⟨(text x).toArray⟩ ∧ DA = ⟨(dealText H B).toArray⟩) := ⟨hTX, hDA⟩
      rw [← hTX]
      clear hTX hDA
      obtain ⟨w7, hw7e⟩ : ∃ w7, w7 = (w6.alloc (.cells #[.slice xa x.length xc] 38)).alloc (.cells #[.slice none 0 0, .slice (some ⟨w6.heap.size, 0, none⟩) 1 1] 37) := ⟨_, rfl⟩
      have h67 : Below w6.heap.size w6 w7 := by rw [hw7e]; exact ((Below.refl _ _).alloc (Nat.le_refl _) _).alloc (by simp) _
      have f4 : w7.cell? ⟨w6.heap.size + 1, 0, none⟩ = some (.slice none 0 0) := by rw [hw7e, World.cell?_alloc_at _ _ _ _ (by simp)]; rfl
      have f5 : w7.cell? ⟨w6.heap.size + 1, 1, none⟩ = some (.slice (some ⟨w6.heap.size, 0, none⟩) 1 1) := by rw [hw7e, World.cell?_alloc_at _ _ _ _ (by simp)]; rfl
      have f6 : w7.cell? ⟨w6.heap.size, 0, none⟩ = some (.slice xa x.length xc) := by rw [hw7e, World.cell?_alloc_past _ _ _ (by simp), World.cell?_alloc_at _ _ _ _ rfl]; rfl
      have F0 := (h67.cell (p := ⟨wr.heap.size, 0, none⟩) s56).trans f0
      have F1 := (h67.cell (p := ⟨wr.heap.size, 1, none⟩) s56).trans f1
      have F2 := (h67.cell (p := ⟨w3.heap.size, 0, none⟩) s36).trans f2
      have F3 := (h67.cell (p := ⟨w3.heap.size, 1, none⟩) s36).trans f3
      have b07 : Below w.heap.size w w7 := b06.trans (h67.mono b06.size)
      have rX7 := rX6.later h67
      have rO7 : RowsAt w7 (some ⟨w6.heap.size, 0, none⟩) [x] := ⟨w6.heap.size, 0, fun _ => rfl, fun r hr => by
        have hr0 : r = 0 := by simpa using hr
        subst hr0
        exact ⟨xa, xc, f6, rX7, nX⟩⟩
      have rH7 := rH6.later h67
      have rB7 := rB6.later h67
      have rN7 := rN6.later h67
      have HW7 : Hid (w7 = (w6.alloc (.cells #[.slice xa x.length xc] 38)).alloc (.cells #[.slice none 0 0, .slice (some ⟨w6.heap.size, 0, none⟩) 1 1] 37)) := hw7e
      have s57 : wr.heap.size < w7.heap.size := Nat.lt_of_lt_of_le s56 h67.size
      have s37 : w3.heap.size < w7.heap.size := Nat.lt_of_lt_of_le s36 h67.size
      have s67 : w6.heap.size + 1 < w7.heap.size := block_lt_of_cell f4
      clear hw7e h67 f0 f1 f2 f3 f6 rX6 rH6 rB6 rN6 rX7 b06 s56 s36
      have pN : ∀ r, r < (B ++ [x]).length → Pack ((B ++ [x]).getD r []) := fun r hr => by
        by_cases e : r < B.length
        · rw [getD_snoc_lt e]; exact HP.out.2.1 r e
        · obtain rfl : r = B.length := by simp at hr; omega
          rw [getD_snoc_at]; exact HP.out.2.2
      have pO : ∀ r, r < [x].length → Pack ([x].getD r []) := fun r hr => by
        have hr0 : r = 0 := by simpa using hr
        subst hr0
        exact HP.out.2.2
      have lN : (B ++ [x]).length = B.length + 1 := by simp
      have vN := vol_snoc B x
      have k1 : ∀ w', Below w7.heap.size w7 w' → Calls Try.prog 18 #[.agg #[.slice ha H.length hc, .slice (some ⟨w4.heap.size, 0, none⟩) (B.length + 1) (B.length + 1)]] w' fun e w'' => e = .returned (.string ⟨(dealText H (B ++ [x])).toArray⟩) ∧ Below w'.heap.size w' w'' := fun w' hb => by
        have h := string_deal ha (some ⟨w4.heap.size, 0, none⟩) H (B ++ [x]) hc (B.length + 1) w' (rH7.later hb) (rN7.later hb) HP.out.1 pN (by omega) (by omega) (fun h => by cases h)
        rw [lN] at h
        exact h
      have k2 : ∀ w', Below w7.heap.size w7 w' → Calls Try.prog 18 #[.agg #[.slice ha H.length hc, .slice ba B.length bc]] w' fun e w'' => e = .returned (.string DA) ∧ Below w'.heap.size w' w'' := fun w' hb => by
        rw [HT.out.2]
        exact string_deal ha ba H B hc bc w' (rH7.later hb) (rB7.later hb) HP.out.1 HP.out.2.1 (by omega) kB nB
      have k3 : ∀ w', Below w7.heap.size w7 w' → Calls Try.prog 18 #[.agg #[.slice none 0 0, .slice (some ⟨w6.heap.size, 0, none⟩) 1 1]] w' fun e w'' => e = .returned (.string ⟨(dealText [] [x]).toArray⟩) ∧ Below w'.heap.size w' w'' := fun w' hb =>
        string_deal none (some ⟨w6.heap.size, 0, none⟩) [] [x] 0 1 w' (RowsAt.nil _ _) (rO7.later hb) (fun r hr => absurd hr (by simp)) pO (by simp [vol, volUpto]; omega) (Nat.le_refl _) (fun h => by cases h)
      clear rO7 rH7 rB7 rN7 pN pO lN vN
      by_cases hb0 : (0 : Int) < (B.length : Int)
      · have hB1 : ¬ B = [] := fun h => by rw [h] at hb0; simp at hb0
        by_cases hx0 : (0 : Int) < (x.length : Int)
        · have e1 : (⟨(dealText H (B ++ [x])).toArray⟩ : ByteArray) = DA ++ ⟨#[47]⟩ ++ TX := by
            rw [law_round, if_pos (by omega)]
            rw [HT.out.1, HT.out.2, show (⟨#[47]⟩ : ByteArray) = ⟨([47] : List UInt8).toArray⟩ from rfl, ba_append, ba_append]
          have e2 : (⟨(dealText [] [x]).toArray⟩ : ByteArray) = ⟨#[47]⟩ ++ TX := by
            rw [law_round_alone, if_pos (by omega)]
            rw [HT.out.1, show (⟨#[47]⟩ : ByteArray) = ⟨([47] : List UInt8).toArray⟩ from rfl, ba_append]
          rw [e1] at k1
          rw [e2] at k3
          clear e1 e2
          have ad1 : ∀ w, (Op.stringOp .add DA ⟨#[47]⟩).run Try.prog w = .ok (.string (DA ++ ⟨#[47]⟩)) w := fun w => run_string_add_sum w _ _ (by show DA.size + 1 ≤ _; omega)
          have ad2 : ∀ w, (Op.stringOp .add (DA ++ ⟨#[47]⟩) TX).run Try.prog w = .ok (.string (DA ++ ⟨#[47]⟩ ++ TX)) w := fun w => run_string_add_sum w _ _ (by rw [ByteArray.size_append]; show DA.size + 1 + TX.size ≤ _; omega)
          have ad3 : ∀ w, (Op.stringOp .add ⟨#[47]⟩ TX).run Try.prog w = .ok (.string (⟨#[47]⟩ ++ TX)) w := fun w => run_string_add_sum w _ _ (by show 1 + TX.size ≤ _; omega)
          go_wp2_with fail
          rw [← HW7.out]
          go_region_held3 (fun w' => Below w7.heap.size w7 w' ∧ w'.cell? ⟨wr.heap.size, 0, none⟩ = some (.slice ha H.length hc) ∧ w'.cell? ⟨wr.heap.size, 1, none⟩ = some (.slice (some ⟨w4.heap.size, 0, none⟩) (B.length + 1) (B.length + 1)) ∧ w'.cell? ⟨w3.heap.size, 0, none⟩ = some (.slice ha H.length hc) ∧ w'.cell? ⟨w3.heap.size, 1, none⟩ = some (.slice ba B.length bc) ∧ w'.cell? ⟨w6.heap.size + 1, 0, none⟩ = some (.slice none 0 0) ∧ w'.cell? ⟨w6.heap.size + 1, 1, none⟩ = some (.slice (some ⟨w6.heap.size, 0, none⟩) 1 1)) (first | exact ⟨(Below.refl _ _).drew, F0, F1, F2, F3, f4, f5⟩ | exact held_later (by assumption) (by assumption) s57 s37 s67) (first | (go_at_call_of 18 (w4.heap.size); refine (k1 _ (And.left (by assumption))).mono ?_; rintro e w8 ⟨rfl, hb8⟩) | (go_at_call_of 18 (bc); refine (k2 _ (And.left (by assumption))).mono ?_; rintro e w8 ⟨rfl, hb8⟩) | (go_at_call_of 18 (w6.heap.size); refine (k3 _ (And.left (by assumption))).mono ?_; rintro e w8 ⟨rfl, hb8⟩))
          go_wp2
          go_ret
          exact ⟨rfl, held_fin b07 (by assumption)⟩
        · have e1 : (⟨(dealText H (B ++ [x])).toArray⟩ : ByteArray) = DA ++ ⟨#[47]⟩ ++ TX := by
            rw [law_round, if_pos (by omega)]
            rw [HT.out.1, HT.out.2, show (⟨#[47]⟩ : ByteArray) = ⟨([47] : List UInt8).toArray⟩ from rfl, ba_append, ba_append]
          have e2 : (⟨(dealText [] [x]).toArray⟩ : ByteArray) = ⟨#[]⟩ ++ TX := by
            rw [law_round_alone, if_neg (by omega)]
            rw [HT.out.1, show (⟨#[]⟩ : ByteArray) = ⟨([] : List UInt8).toArray⟩ from rfl, ba_append]
          rw [e1] at k1
          rw [e2] at k3
          clear e1 e2
          have ad1 : ∀ w, (Op.stringOp .add DA ⟨#[47]⟩).run Try.prog w = .ok (.string (DA ++ ⟨#[47]⟩)) w := fun w => run_string_add_sum w _ _ (by show DA.size + 1 ≤ _; omega)
          have ad2 : ∀ w, (Op.stringOp .add (DA ++ ⟨#[47]⟩) TX).run Try.prog w = .ok (.string (DA ++ ⟨#[47]⟩ ++ TX)) w := fun w => run_string_add_sum w _ _ (by rw [ByteArray.size_append]; show DA.size + 1 + TX.size ≤ _; omega)
          have ad3 : ∀ w, (Op.stringOp .add ⟨#[]⟩ TX).run Try.prog w = .ok (.string (⟨#[]⟩ ++ TX)) w := fun w => run_string_add_sum w _ _ (by show 0 + TX.size ≤ _; omega)
          go_wp2_with fail
          rw [← HW7.out]
          go_region_held3 (fun w' => Below w7.heap.size w7 w' ∧ w'.cell? ⟨wr.heap.size, 0, none⟩ = some (.slice ha H.length hc) ∧ w'.cell? ⟨wr.heap.size, 1, none⟩ = some (.slice (some ⟨w4.heap.size, 0, none⟩) (B.length + 1) (B.length + 1)) ∧ w'.cell? ⟨w3.heap.size, 0, none⟩ = some (.slice ha H.length hc) ∧ w'.cell? ⟨w3.heap.size, 1, none⟩ = some (.slice ba B.length bc) ∧ w'.cell? ⟨w6.heap.size + 1, 0, none⟩ = some (.slice none 0 0) ∧ w'.cell? ⟨w6.heap.size + 1, 1, none⟩ = some (.slice (some ⟨w6.heap.size, 0, none⟩) 1 1)) (first | exact ⟨(Below.refl _ _).drew, F0, F1, F2, F3, f4, f5⟩ | exact held_later (by assumption) (by assumption) s57 s37 s67) (first | (go_at_call_of 18 (w4.heap.size); refine (k1 _ (And.left (by assumption))).mono ?_; rintro e w8 ⟨rfl, hb8⟩) | (go_at_call_of 18 (bc); refine (k2 _ (And.left (by assumption))).mono ?_; rintro e w8 ⟨rfl, hb8⟩) | (go_at_call_of 18 (w6.heap.size); refine (k3 _ (And.left (by assumption))).mono ?_; rintro e w8 ⟨rfl, hb8⟩))
          go_wp2
          go_ret
          exact ⟨rfl, held_fin b07 (by assumption)⟩
      · obtain rfl : B = [] := List.eq_nil_of_length_eq_zero (by omega)
        simp only [List.length_nil, Nat.zero_add] at k1 k2 F1 F3
        by_cases hx0 : (0 : Int) < (x.length : Int)
        · have e1 : (⟨(dealText H ([] ++ [x])).toArray⟩ : ByteArray) = DA ++ ⟨#[47]⟩ ++ TX := by
            rw [law_round, if_pos (Or.inr (by omega))]
            rw [HT.out.1, HT.out.2, show (⟨#[47]⟩ : ByteArray) = ⟨([47] : List UInt8).toArray⟩ from rfl, ba_append, ba_append]
          have e2 : (⟨(dealText [] [x]).toArray⟩ : ByteArray) = ⟨#[47]⟩ ++ TX := by
            rw [law_round_alone, if_pos (by omega)]
            rw [HT.out.1, show (⟨#[47]⟩ : ByteArray) = ⟨([47] : List UInt8).toArray⟩ from rfl, ba_append]
          rw [e1] at k1
          rw [e2] at k3
          clear e1 e2
          have ad1 : ∀ w, (Op.stringOp .add DA ⟨#[47]⟩).run Try.prog w = .ok (.string (DA ++ ⟨#[47]⟩)) w := fun w => run_string_add_sum w _ _ (by show DA.size + 1 ≤ _; omega)
          have ad2 : ∀ w, (Op.stringOp .add (DA ++ ⟨#[47]⟩) TX).run Try.prog w = .ok (.string (DA ++ ⟨#[47]⟩ ++ TX)) w := fun w => run_string_add_sum w _ _ (by rw [ByteArray.size_append]; show DA.size + 1 + TX.size ≤ _; omega)
          have ad3 : ∀ w, (Op.stringOp .add ⟨#[47]⟩ TX).run Try.prog w = .ok (.string (⟨#[47]⟩ ++ TX)) w := fun w => run_string_add_sum w _ _ (by show 1 + TX.size ≤ _; omega)
          go_wp2_with fail
          rw [← HW7.out]
          go_region_held3 (fun w' => Below w7.heap.size w7 w' ∧ w'.cell? ⟨wr.heap.size, 0, none⟩ = some (.slice ha H.length hc) ∧ w'.cell? ⟨wr.heap.size, 1, none⟩ = some (.slice (some ⟨w4.heap.size, 0, none⟩) 1 1) ∧ w'.cell? ⟨w3.heap.size, 0, none⟩ = some (.slice ha H.length hc) ∧ w'.cell? ⟨w3.heap.size, 1, none⟩ = some (.slice ba 0 bc) ∧ w'.cell? ⟨w6.heap.size + 1, 0, none⟩ = some (.slice none 0 0) ∧ w'.cell? ⟨w6.heap.size + 1, 1, none⟩ = some (.slice (some ⟨w6.heap.size, 0, none⟩) 1 1)) (first | exact ⟨(Below.refl _ _).drew, F0, F1, F2, F3, f4, f5⟩ | exact held_later (by assumption) (by assumption) s57 s37 s67) (first | (go_at_call_of 18 (w4.heap.size); refine (k1 _ (And.left (by assumption))).mono ?_; rintro e w8 ⟨rfl, hb8⟩) | (go_at_call_of 18 (bc); refine (k2 _ (And.left (by assumption))).mono ?_; rintro e w8 ⟨rfl, hb8⟩) | (go_at_call_of 18 (w6.heap.size); refine (k3 _ (And.left (by assumption))).mono ?_; rintro e w8 ⟨rfl, hb8⟩))
          go_wp2
          go_ret
          exact ⟨rfl, held_fin b07 (by assumption)⟩
        · have e1 : (⟨(dealText H ([] ++ [x])).toArray⟩ : ByteArray) = DA ++ ⟨#[]⟩ ++ TX := by
            rw [law_round, if_neg (fun h => by rcases h with h | h; exact absurd h (by simp); omega)]
            rw [HT.out.1, HT.out.2, show (⟨#[]⟩ : ByteArray) = ⟨([] : List UInt8).toArray⟩ from rfl, ba_append, ba_append]
          have e2 : (⟨(dealText [] [x]).toArray⟩ : ByteArray) = ⟨#[]⟩ ++ TX := by
            rw [law_round_alone, if_neg (by omega)]
            rw [HT.out.1, show (⟨#[]⟩ : ByteArray) = ⟨([] : List UInt8).toArray⟩ from rfl, ba_append]
          rw [e1] at k1
          rw [e2] at k3
          clear e1 e2
          have ad1 : ∀ w, (Op.stringOp .add DA ⟨#[]⟩).run Try.prog w = .ok (.string (DA ++ ⟨#[]⟩)) w := fun w => run_string_add_sum w _ _ (by show DA.size + 0 ≤ _; omega)
          have ad2 : ∀ w, (Op.stringOp .add (DA ++ ⟨#[]⟩) TX).run Try.prog w = .ok (.string (DA ++ ⟨#[]⟩ ++ TX)) w := fun w => run_string_add_sum w _ _ (by rw [ByteArray.size_append]; show DA.size + 0 + TX.size ≤ _; omega)
          have ad3 : ∀ w, (Op.stringOp .add ⟨#[]⟩ TX).run Try.prog w = .ok (.string (⟨#[]⟩ ++ TX)) w := fun w => run_string_add_sum w _ _ (by show 0 + TX.size ≤ _; omega)
          go_wp2_with fail
          rw [← HW7.out]
          go_region_held3 (fun w' => Below w7.heap.size w7 w' ∧ w'.cell? ⟨wr.heap.size, 0, none⟩ = some (.slice ha H.length hc) ∧ w'.cell? ⟨wr.heap.size, 1, none⟩ = some (.slice (some ⟨w4.heap.size, 0, none⟩) 1 1) ∧ w'.cell? ⟨w3.heap.size, 0, none⟩ = some (.slice ha H.length hc) ∧ w'.cell? ⟨w3.heap.size, 1, none⟩ = some (.slice ba 0 bc) ∧ w'.cell? ⟨w6.heap.size + 1, 0, none⟩ = some (.slice none 0 0) ∧ w'.cell? ⟨w6.heap.size + 1, 1, none⟩ = some (.slice (some ⟨w6.heap.size, 0, none⟩) 1 1)) (first | exact ⟨(Below.refl _ _).drew, F0, F1, F2, F3, f4, f5⟩ | exact held_later (by assumption) (by assumption) s57 s37 s67) (first | (go_at_call_of 18 (w4.heap.size); refine (k1 _ (And.left (by assumption))).mono ?_; rintro e w8 ⟨rfl, hb8⟩) | (go_at_call_of 18 (bc); refine (k2 _ (And.left (by assumption))).mono ?_; rintro e w8 ⟨rfl, hb8⟩) | (go_at_call_of 18 (w6.heap.size); refine (k3 _ (And.left (by assumption))).mono ?_; rintro e w8 ⟨rfl, hb8⟩))
          go_wp2
          go_ret
          exact ⟨rfl, held_fin b07 (by assumption)⟩

end Go.Proofs.Qxb6609030a.RoundWalk
