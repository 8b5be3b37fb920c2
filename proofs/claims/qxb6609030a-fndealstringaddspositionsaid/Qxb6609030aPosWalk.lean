/-
  The walk of FnDealStringAddsPosition (6).
-/
import Derived.Test.Qxb6609030aSizes
import Derived.Test.Qxb6609030aCopies
import Derived.Test.Qxb6609030aFormat
import Derived.Test.Qxb6609030aSlash
import Derived.Deep.RegionHeld3
namespace Go.Proofs.Qxb6609030a.PosWalk
open Go.RowKit Go.Proofs.Qxb6609030a.Text Go.Proofs.Qxb6609030a.Sizes Go.Proofs.Qxb6609030a.Copies Go.Proofs.Qxb6609030a.CardText Go.Proofs.Qxb6609030a.Format
set_option linter.unusedVariables false

theorem ba_append (l1 l2 : List UInt8) : (⟨l1.toArray⟩ ++ ⟨l2.toArray⟩ : ByteArray) = ⟨(l1 ++ l2).toArray⟩ := by
  apply ByteArray.ext
  simp

theorem ba_take (l : List UInt8) (i : Nat) : (⟨l.toArray⟩ : ByteArray).extract 0 i = ⟨(l.take i).toArray⟩ := by
  apply ByteArray.ext
  apply Array.toList_inj.1
  rw [Lib.extract_data]
  simp

theorem ba_drop (l : List UInt8) (i : Nat) : (⟨l.toArray⟩ : ByteArray).extract i (⟨l.toArray⟩ : ByteArray).size = ⟨(l.drop i).toArray⟩ := by
  apply ByteArray.ext
  apply Array.toList_inj.1
  rw [Lib.extract_data]
  show List.take (l.length - i) (List.drop i l) = List.drop i l
  exact List.take_of_length_le (by simp)

theorem held_later {w7 w' w8 : World} {p r : Nat} {v0 v1 v4 v5 : Value} (h : Below w7.heap.size w7 w' ∧ w'.cell? ⟨p, 0, none⟩ = some v0 ∧ w'.cell? ⟨p, 1, none⟩ = some v1 ∧ w'.cell? ⟨r, 0, none⟩ = some v4 ∧ w'.cell? ⟨r, 1, none⟩ = some v5)
    (hb : Below w'.heap.size w' w8) :
    Below w7.heap.size w7 w8 ∧ w8.cell? ⟨p, 0, none⟩ = some v0 ∧ w8.cell? ⟨p, 1, none⟩ = some v1 ∧ w8.cell? ⟨r, 0, none⟩ = some v4 ∧ w8.cell? ⟨r, 1, none⟩ = some v5 := by
  obtain ⟨h0, h1, h2, h5, h6⟩ := h
  have hs := h0.size
  exact ⟨h0.trans (hb.mono hs), (hb.cell (block_lt_of_cell h1)).trans h1, (hb.cell (block_lt_of_cell h2)).trans h2, (hb.cell (block_lt_of_cell h5)).trans h5, (hb.cell (block_lt_of_cell h6)).trans h6⟩

theorem held_fin {w w7 w8 : World} {q : Prop} (h7 : Below w.heap.size w w7) (h : Below w7.heap.size w7 w8 ∧ q) : Below w.heap.size w w8 := h7.trans (h.1.mono h7.size)

set_option maxHeartbeats 8000000 in
theorem pos_walk (a0 a1 a2 : Option Addr) (H B : List (List Int)) (x : List Int) (c0 c1 c2 : Nat) (w : World)
    (hH : RowsAt w a0 H) (hn0 : a0 = none → H.length = 0 ∧ c0 = 0) (bH : ∀ r, r < H.length → Bytes (H.getD r []))
    (hB : RowsAt w a1 B) (hn1 : a1 = none → B.length = 0 ∧ c1 = 0) (bB : ∀ r, r < B.length → Bytes (B.getD r []))
    (hX : RowAt w a2 x) (hn2 : a2 = none → x.length = 0 ∧ c2 = 0) (bX : Bytes x) :
    Calls Try.prog 6 #[.slice a0 H.length c0, .slice a1 B.length c1, .slice a2 x.length c2] w fun e w' => e = .returned (.bool true) ∧ Below w.heap.size w w' := by
  go_enter Try.func6, Try.ntmps6
  go_wp2_with fail
  refine (bytes19 _ _ _ _ _ _ _ _ _ _ hH hB).mono ?_
  rintro e w' ⟨h2, rfl⟩
  rcases h2.out with rfl | ⟨rfl, hvol⟩
  · go_wp2
    go_ret
    exact ⟨rfl, Below.refl _ _⟩
  clear h2
  have lH : H.length ≤ 1048576 := by omega
  have lB : B.length ≤ 1048576 := by omega
  have lX : x.length ≤ 1048576 := by omega
  have rH : ∀ r, r < H.length → (H.getD r []).length ≤ 1048576 := fun r hr => by have := vol_row H hr; omega
  have rB : ∀ r, r < B.length → (B.getD r []).length ≤ 1048576 := fun r hr => by have := vol_row B hr; omega
  go_wp2_with fail
  refine (grow_any 0 _ _ _ _ (by omega) (by omega) hH).mono ?_
  rintro e w' ⟨⟨t1, rfl, g0, g1⟩, rfl⟩
  go_wp2_with fail
  refine (grow_any t1 _ _ _ _ g0 g1 hB).mono ?_
  rintro e w' ⟨⟨t2, rfl, g2, g3⟩, rfl⟩
  go_wp2_with fail
  refine (growRow_any t2 _ _ _ _ g2 g3).mono ?_
  rintro e w' ⟨⟨t3, rfl, g4, g5⟩, rfl⟩
  by_cases q : 1048576 < t3
  · go_wp2
    go_ret
    exact ⟨rfl, Below.refl _ _⟩
  go_wp2_with fail
  refine (rowsArePack_any _ _ _ _ lH rH bH hH).mono ?_
  rintro e w' ⟨h2, rfl⟩
  rcases h2.out with rfl | ⟨rfl, pH⟩
  · go_wp2
    go_ret
    exact ⟨rfl, Below.refl _ _⟩
  clear h2
  go_wp2_with fail
  refine (rowsArePack_any _ _ _ _ lB rB bB hB).mono ?_
  rintro e w' ⟨h2, rfl⟩
  rcases h2.out with rfl | ⟨rfl, pB⟩
  · go_wp2
    go_ret
    exact ⟨rfl, Below.refl _ _⟩
  clear h2
  go_wp2_with fail
  refine (rowIsPack_any _ _ _ _ lX bX hX).mono ?_
  rintro e w' ⟨h2, rfl⟩
  rcases h2.out with rfl | ⟨rfl, pX⟩
  · go_wp2
    go_ret
    exact ⟨rfl, Below.refl _ _⟩
  clear h2
  have HP : Hid ((∀ r, r < H.length → Pack (H.getD r [])) ∧ (∀ r, r < B.length → Pack (B.getD r [])) ∧ Pack x) := ⟨pH, pB, pX⟩
  clear pH pB pX bH bB bX
  go_wp2_with fail
  refine (rows_any a0 H c0 w lH rH hn0 hH).mono ?_
  rintro e w2 ⟨hnr, hb2⟩
  obtain ⟨ha, hc, rfl, dH, nH, kH⟩ := hnr
  go_wp2_with fail
  refine (rows_any a1 B c1 w2 lB rB hn1 (hB.later hb2)).mono ?_
  rintro e w3 ⟨hnr, hb3⟩
  obtain ⟨ba, bc, rfl, dB, nB, kB⟩ := hnr
  have hb03 : Below w.heap.size w w3 := hb2.trans (hb3.mono hb2.size)
  have dH3 := dH.later hb3
  have hX3 := hX.later hb03
  clear hH hB hX dH hb2 hb3
  go_wp2_with fail
  have hD : Below w3.heap.size w3 (w3.alloc (.cells #[.slice ha H.length hc, .slice ba B.length bc] 37)) := (Below.refl _ _).alloc (Nat.le_refl _) _
  refine (row_any a2 x c2 _ lX hn2 (hX3.later hD)).mono ?_
  rintro e w4 ⟨hnr, hb4⟩
  obtain ⟨xa, xc, rfl, dX, nX, kX⟩ := hnr
  rw [World.size_alloc] at hb4
  have hD4 : Below w3.heap.size w3 w4 := hD.trans (hb4.mono (by omega))
  have b04 : Below w.heap.size w w4 := hb03.trans (hD4.mono hb03.size)
  have dH4 := dH3.later hD4
  have dB4 := dB.later hD4
  have s34 : w3.heap.size < w4.heap.size := by have := hb4.size; simp at this; omega
  have cD0 : w4.cell? ⟨w3.heap.size, 0, none⟩ = some (.slice ha H.length hc) := by rw [hb4.cell (by simp)]; simp
  have cD1 : w4.cell? ⟨w3.heap.size, 1, none⟩ = some (.slice ba B.length bc) := by rw [hb4.cell (by simp)]; simp
  clear hD hb4 hD4 dH3 dB hX3 hb03
  have hmk := run_make_row' (P := Try.prog) 34 38 (.slice none 0 0) 24 Try.underlying34 info38 rfl .i64 .i64 (H.length + 1) (by omega) (by omega)
  have ec : ((H.length + 1 : Nat) : Int) = (H.length : Int) + 1 := by omega
  rw [ec] at hmk
  clear ec
  go_wp2
  clear hmk
  have hM0 := mid_start w4 (H.length + 1) (H ++ [x])
  have dHk := dH4
  obtain ⟨bb, bo, hba, hbcell⟩ := dH4
  go_loopg [10] H.length (fun g i wr => ∃ k : Nat, k ≤ H.length ∧ g = H.length - k ∧ i = .int .i64 k ∧ Mid wr w4.heap.size (H.length + 1) (H ++ [x]) k ∧ Below w4.heap.size w4 wr)
  case atStart => exact ⟨0, Nat.zero_le _, rfl, rfl, hM0, (Below.refl _ _).alloc (Nat.le_refl _) _⟩
  case round =>
    clear hM0
    obtain ⟨k, hk, rfl, rfl, hM, hBr⟩ := hrel
    have t1 : wr.cell? ⟨w3.heap.size, 0, none⟩ = some (.slice ha H.length hc) := (hBr.cell (by exact s34)).trans cD0
    by_cases hlt : k < H.length
    · obtain rfl := hba (by omega)
      have hlz : (k : Int) < (H.length : Int) := by omega
      obtain ⟨ra, rc, e1, e2, e3⟩ := hbcell k hlt
      have t2 := (hBr.cell (block_lt_of_cell e1)).trans e1
      have d2 := e2.later hBr
      obtain ⟨⟨qa, ql, qc, s1⟩, s2, s3⟩ := hM.slot (i := k) (by omega)
      clear e1 e2
      obtain ⟨L, hL⟩ : ∃ L, L = H.getD k [] := ⟨_, rfl⟩
      have HL : Hid (L = H.getD k []) := hL
      rw [← hL] at t2 d2 e3
      clear hL
      go_wp2
      go_roundg (H.length - (k + 1))
      case measure => go_light; omega
      case rel =>
        go_light
        have hst := hM.step (a := ra) (c := rc) (by rw [getD_snoc_lt hlt, ← HL.out]; exact d2) (by rw [getD_snoc_lt hlt, ← HL.out]; exact e3)
        rw [getD_snoc_lt hlt, ← HL.out] at hst
        exact ⟨k + 1, by omega, rfl, by simp, hst, hBr.setCell (Nat.le_refl _) _⟩
    · obtain rfl : H.length = k := by omega
      clear hlt
      obtain ⟨⟨qa, ql, qc, s1⟩, s2, s3⟩ := hM.slot (i := H.length) (by omega)
      have dXr := dX.later hBr
      have hst := hM.step (a := xa) (c := xc) (by rw [getD_snoc_at]; exact dXr) (by rw [getD_snoc_at]; exact nX)
      rw [getD_snoc_at] at hst
      have hB5 := hBr.setCell (p := ⟨w4.heap.size, H.length, none⟩) (Nat.le_refl _) (.slice xa x.length xc)
      have cO : wr.cell? ⟨w3.heap.size, 1, none⟩ = some (.slice ba B.length bc) := (hBr.cell (by exact s34)).trans cD1
      have s3r : w3.heap.size < wr.heap.size := Nat.lt_of_lt_of_le s34 hBr.size
      have cA : ∀ j o, ((wr.setCell ⟨w4.heap.size, H.length, none⟩ (.slice xa x.length xc)).alloc o).cell? ⟨w3.heap.size, j, none⟩ = w4.cell? ⟨w3.heap.size, j, none⟩ := fun j o => by
        rw [World.cell?_alloc_past _ _ _ (by simpa using s3r)]
        exact hB5.cell (by exact s34)
      have cA0 := fun o => (cA 0 o).trans cD0
      have cA1 := fun o => (cA 1 o).trans cD1
      clear cA
      clear hM hBr dXr
      go_wp2_with fail
      have hsz5 : (wr.setCell ⟨w4.heap.size, H.length, none⟩ (.slice xa x.length xc)).heap.size = wr.heap.size := by simp
      have dN5 : RowsAt (wr.setCell ⟨w4.heap.size, H.length, none⟩ (.slice xa x.length xc)) (some ⟨w4.heap.size, 0, none⟩) (H ++ [x]) := by
        refine Mid.done ?_
        rw [List.length_append, List.length_singleton]
        exact hst
      have hw45 := hB5.size
      obtain ⟨w5, hw5e⟩ : ∃ w5, w5 = wr.setCell ⟨w4.heap.size, H.length, none⟩ (.slice xa x.length xc) := ⟨_, rfl⟩
      rw [← hw5e] at hsz5 dN5 hB5 hw45 ⊢
      have HW5 : Hid (w5.heap.size = wr.heap.size) := hsz5
      have hDD : Below w5.heap.size w5 (w5.alloc (.cells #[.slice (some ⟨w4.heap.size, 0, none⟩) (H.length + 1) (H.length + 1), .slice ba B.length bc] 37)) := (Below.refl _ _).alloc (Nat.le_refl _) _
      have h45 : Below w4.heap.size w4 (w5.alloc (.cells #[.slice (some ⟨w4.heap.size, 0, none⟩) (H.length + 1) (H.length + 1), .slice ba B.length bc] 37)) := hB5.trans (hDD.mono hw45)
      obtain ⟨DA, hDA⟩ : ∃ DA : ByteArray, DA = ⟨(dealText H B).toArray⟩ := ⟨_, rfl⟩
      have zDA : DA.size ≤ 10000000 := by rw [hDA]; show (dealText H B).length ≤ _; have := dealText_length H B; omega
      have hkd := string_deal ha ba H B hc bc _ (dHk.later h45) (dB4.later h45) HP.out.1 HP.out.2.1 (by omega) kB nB
      rw [← hDA] at hkd
      refine hkd.mono ?_
      rintro e w6 ⟨rfl, hb6⟩
      rw [World.size_alloc] at hb6
      have h56 : Below w5.heap.size w5 w6 := hDD.trans (hb6.mono (by omega))
      have h46 : Below w4.heap.size w4 w6 := hB5.trans (h56.mono hw45)
      have b06 : Below w.heap.size w w6 := b04.trans (h46.mono b04.size)
      have s56 : wr.heap.size < w6.heap.size := by have := hb6.size; rw [World.size_alloc] at this; omega
      have f0 : w6.cell? ⟨wr.heap.size, 0, none⟩ = some (.slice (some ⟨w4.heap.size, 0, none⟩) (H.length + 1) (H.length + 1)) := by rw [hb6.cell (by simp [hsz5]), ← hsz5]; simp
      have f1 : w6.cell? ⟨wr.heap.size, 1, none⟩ = some (.slice ba B.length bc) := by rw [hb6.cell (by simp [hsz5]), ← hsz5]; simp
      have rB6 := dB4.later h46
      have rN6 := dN5.later h56
      have rX6 := dX.later h46
      clear cA0 cA1 s3r hDD h45 hb6 h56 h46 hB5 hw45 dN5 hst s1 s2 s3 t1 cD0 cD1 cO dHk dB4 dX b04 s34 hsz5 hw5e hkd
      obtain ⟨I, hI⟩ : ∃ I, I = slash DA.data.toList := ⟨_, rfl⟩
      have ks := Slash.firstSlash_any DA w6 (by omega)
      rw [← hI] at ks
      have zI : I ≤ DA.size := by
        rw [hI]
        have := Slash.slash_le DA.data.toList
        simpa using this
      have zI0 : (0 : Int) ≤ (I : Int) := by omega
      have zI1 : (I : Int) ≤ (DA.size : Int) := by omega
      have HI : Hid (DA = ⟨(dealText H B).toArray⟩ ∧ I = slash (dealText H B)) := ⟨hDA, by rw [hI, hDA]⟩
      clear hI hDA
      go_wp2_with fail
      refine ks.mono ?_
      rintro e w' ⟨rfl, rfl⟩
      clear ks
      have pN : ∀ r, r < (H ++ [x]).length → Pack ((H ++ [x]).getD r []) := fun r hr => by
        by_cases e : r < H.length
        · rw [getD_snoc_lt e]; exact HP.out.1 r e
        · obtain rfl : r = H.length := by simp at hr; omega
          rw [getD_snoc_at]; exact HP.out.2.2
      have pO : ∀ r, r < [x].length → Pack ([x].getD r []) := fun r hr => by
        have hr0 : r = 0 := by simpa using hr
        subst hr0
        exact HP.out.2.2
      have lN : (H ++ [x]).length = H.length + 1 := by simp
      have vN := vol_snoc H x
      have k1 : ∀ w', Below w6.heap.size w6 w' → Calls Try.prog 18 #[.agg #[.slice (some ⟨w4.heap.size, 0, none⟩) (H.length + 1) (H.length + 1), .slice ba B.length bc]] w' fun e w'' => e = .returned (.string ⟨(dealText (H ++ [x]) B).toArray⟩) ∧ Below w'.heap.size w' w'' := fun w' hb => by
        have h := string_deal (some ⟨w4.heap.size, 0, none⟩) ba (H ++ [x]) B (H.length + 1) bc w' (rN6.later hb) (rB6.later hb) pN HP.out.2.1 (by omega) kB nB
        rw [lN] at h
        exact h
      clear rB6 rN6 pN lN vN
      by_cases hb0 : (0 : Int) < (H.length : Int)
      · have hB1 : ¬ H = [] := fun h => by rw [h] at hb0; simp at hb0
        have e1 : (⟨(dealText (H ++ [x]) B).toArray⟩ : ByteArray) = DA.extract 0 I ++ ⟨#[124]⟩ ++ ⟨(text x).toArray⟩ ++ DA.extract I DA.size := by
          rw [law_position, if_pos (by omega)]
          rw [HI.out.1, HI.out.2, ba_take, ba_drop, show (⟨#[124]⟩ : ByteArray) = ⟨([124] : List UInt8).toArray⟩ from rfl, ba_append, ba_append, ba_append]
        rw [e1] at k1
        clear e1
        go_wp2_with fail
        obtain ⟨TX, hTX⟩ : ∃ TX : ByteArray, TX = ⟨(text x).toArray⟩ := ⟨_, rfl⟩
        have zTX : TX.size ≤ 10000000 := by rw [hTX]; show (text x).length ≤ _; rw [text_length]; omega
        have kt := text_any xa x xc w6 lX HP.out.2.2 rX6
        rw [← hTX] at kt k1
        refine kt.mono ?_
        rintro e w6b ⟨rfl, hb6⟩
        clear kt
        obtain ⟨w7, hw7e⟩ : ∃ w7, w7 = (w6b.alloc (.cells #[.slice xa x.length xc] 38)).alloc (.cells #[.slice (some ⟨w6b.heap.size, 0, none⟩) 1 1, .slice none 0 0] 37) := ⟨_, rfl⟩
        have hb67 : Below w6b.heap.size w6b w7 := by rw [hw7e]; exact ((Below.refl _ _).alloc (Nat.le_refl _) _).alloc (by simp) _
        have h67 : Below w6.heap.size w6 w7 := hb6.trans (hb67.mono hb6.size)
        have f4 : w7.cell? ⟨w6b.heap.size + 1, 0, none⟩ = some (.slice (some ⟨w6b.heap.size, 0, none⟩) 1 1) := by rw [hw7e, World.cell?_alloc_at _ _ _ _ (by simp)]; rfl
        have f5 : w7.cell? ⟨w6b.heap.size + 1, 1, none⟩ = some (.slice none 0 0) := by rw [hw7e, World.cell?_alloc_at _ _ _ _ (by simp)]; rfl
        have f6 : w7.cell? ⟨w6b.heap.size, 0, none⟩ = some (.slice xa x.length xc) := by rw [hw7e, World.cell?_alloc_past _ _ _ (by simp), World.cell?_alloc_at _ _ _ _ rfl]; rfl
        have F0 := (h67.cell (p := ⟨wr.heap.size, 0, none⟩) s56).trans f0
        have F1 := (h67.cell (p := ⟨wr.heap.size, 1, none⟩) s56).trans f1
        have b07 : Below w.heap.size w w7 := b06.trans (h67.mono b06.size)
        have rX7 := rX6.later h67
        have rO7 : RowsAt w7 (some ⟨w6b.heap.size, 0, none⟩) [x] := ⟨w6b.heap.size, 0, fun _ => rfl, fun r hr => by
          have hr0 : r = 0 := by simpa using hr
          subst hr0
          exact ⟨xa, xc, f6, rX7, nX⟩⟩
        have HW7 : Hid (w7 = (w6b.alloc (.cells #[.slice xa x.length xc] 38)).alloc (.cells #[.slice (some ⟨w6b.heap.size, 0, none⟩) 1 1, .slice none 0 0] 37)) := hw7e
        have m1 : ∀ w', Below w7.heap.size w7 w' → Calls Try.prog 18 #[.agg #[.slice (some ⟨w4.heap.size, 0, none⟩) (H.length + 1) (H.length + 1), .slice ba B.length bc]] w' fun e w'' => e = .returned (.string (DA.extract 0 I ++ ⟨#[124]⟩ ++ TX ++ DA.extract I DA.size)) ∧ Below w'.heap.size w' w'' := fun w' hb => k1 w' (h67.trans (hb.mono h67.size))
        have k3 : ∀ w', Below w7.heap.size w7 w' → Calls Try.prog 18 #[.agg #[.slice (some ⟨w6b.heap.size, 0, none⟩) 1 1, .slice none 0 0]] w' fun e w'' => e = .returned (.string TX) ∧ Below w'.heap.size w' w'' := fun w' hb => by
          have h := string_deal (some ⟨w6b.heap.size, 0, none⟩) none [x] [] 1 0 w' (rO7.later hb) (RowsAt.nil _ _) pO (fun r hr => absurd hr (by simp)) (by simp [vol, volUpto]; omega) (Nat.le_refl _) (fun _ => ⟨rfl, rfl⟩)
          rw [law_position_alone, ← hTX] at h
          exact h
        clear hw7e h67 hb67 hb6 f0 f1 f6 rX6 rX7 rO7 b06 s56 k1 pO hTX
        have ad1 : ∀ w, (Op.stringOp .add (DA.extract 0 I) ⟨#[124]⟩).run Try.prog w = .ok (.string (DA.extract 0 I ++ ⟨#[124]⟩)) w := fun w => run_string_add_sum w _ _ (by rw [ByteArray.size_extract]; show _ + 1 ≤ _; omega)
        have ad2 : ∀ w, (Op.stringOp .add (DA.extract 0 I ++ ⟨#[124]⟩) TX).run Try.prog w = .ok (.string (DA.extract 0 I ++ ⟨#[124]⟩ ++ TX)) w := fun w => run_string_add_sum w _ _ (by rw [ByteArray.size_append, ByteArray.size_extract]; show _ + 1 + TX.size ≤ _; omega)
        have ad3 : ∀ w, (Op.stringOp .add (DA.extract 0 I ++ ⟨#[124]⟩ ++ TX) (DA.extract I DA.size)).run Try.prog w = .ok (.string (DA.extract 0 I ++ ⟨#[124]⟩ ++ TX ++ DA.extract I DA.size)) w := fun w => run_string_add_sum w _ _ (by rw [ByteArray.size_append, ByteArray.size_append, ByteArray.size_extract, ByteArray.size_extract]; show _ + 1 + TX.size + _ ≤ _; omega)
        go_wp2_with fail
        rw [← HW7.out]
        go_region_held3 (fun w' => Below w7.heap.size w7 w' ∧ w'.cell? ⟨wr.heap.size, 0, none⟩ = some (.slice (some ⟨w4.heap.size, 0, none⟩) (H.length + 1) (H.length + 1)) ∧ w'.cell? ⟨wr.heap.size, 1, none⟩ = some (.slice ba B.length bc) ∧ w'.cell? ⟨w6b.heap.size + 1, 0, none⟩ = some (.slice (some ⟨w6b.heap.size, 0, none⟩) 1 1) ∧ w'.cell? ⟨w6b.heap.size + 1, 1, none⟩ = some (.slice none 0 0)) (first | exact ⟨(Below.refl _ _).drew, F0, F1, f4, f5⟩ | exact held_later (by assumption) (by assumption)) (first | (go_at_call_of 18 (w4.heap.size); refine (m1 _ (And.left (by assumption))).mono ?_; rintro e w8 ⟨rfl, hb8⟩) | (go_at_call_of 18 (w6b.heap.size); refine (k3 _ (And.left (by assumption))).mono ?_; rintro e w8 ⟨rfl, hb8⟩))
        go_wp2
        go_ret
        exact ⟨rfl, held_fin b07 (by assumption)⟩
      · obtain rfl : H = [] := List.eq_nil_of_length_eq_zero (by omega)
        simp only [List.length_nil, Nat.zero_add] at k1 f0
        have e1 : (⟨(dealText ([] ++ [x]) B).toArray⟩ : ByteArray) = DA.extract 0 I ++ ⟨#[]⟩ ++ ⟨(text x).toArray⟩ ++ DA.extract I DA.size := by
          rw [law_position, if_neg (by simp)]
          rw [HI.out.1, HI.out.2, ba_take, ba_drop, show (⟨#[]⟩ : ByteArray) = ⟨([] : List UInt8).toArray⟩ from rfl, ba_append, ba_append, ba_append]
        rw [e1] at k1
        clear e1
        go_wp2_with fail
        obtain ⟨TX, hTX⟩ : ∃ TX : ByteArray, TX = ⟨(text x).toArray⟩ := ⟨_, rfl⟩
        have zTX : TX.size ≤ 10000000 := by rw [hTX]; show (text x).length ≤ _; rw [text_length]; omega
        have kt := text_any xa x xc w6 lX HP.out.2.2 rX6
        rw [← hTX] at kt k1
        refine kt.mono ?_
        rintro e w6b ⟨rfl, hb6⟩
        clear kt
        obtain ⟨w7, hw7e⟩ : ∃ w7, w7 = (w6b.alloc (.cells #[.slice xa x.length xc] 38)).alloc (.cells #[.slice (some ⟨w6b.heap.size, 0, none⟩) 1 1, .slice none 0 0] 37) := ⟨_, rfl⟩
        have hb67 : Below w6b.heap.size w6b w7 := by rw [hw7e]; exact ((Below.refl _ _).alloc (Nat.le_refl _) _).alloc (by simp) _
        have h67 : Below w6.heap.size w6 w7 := hb6.trans (hb67.mono hb6.size)
        have f4 : w7.cell? ⟨w6b.heap.size + 1, 0, none⟩ = some (.slice (some ⟨w6b.heap.size, 0, none⟩) 1 1) := by rw [hw7e, World.cell?_alloc_at _ _ _ _ (by simp)]; rfl
        have f5 : w7.cell? ⟨w6b.heap.size + 1, 1, none⟩ = some (.slice none 0 0) := by rw [hw7e, World.cell?_alloc_at _ _ _ _ (by simp)]; rfl
        have f6 : w7.cell? ⟨w6b.heap.size, 0, none⟩ = some (.slice xa x.length xc) := by rw [hw7e, World.cell?_alloc_past _ _ _ (by simp), World.cell?_alloc_at _ _ _ _ rfl]; rfl
        have F0 := (h67.cell (p := ⟨wr.heap.size, 0, none⟩) s56).trans f0
        have F1 := (h67.cell (p := ⟨wr.heap.size, 1, none⟩) s56).trans f1
        have b07 : Below w.heap.size w w7 := b06.trans (h67.mono b06.size)
        have rX7 := rX6.later h67
        have rO7 : RowsAt w7 (some ⟨w6b.heap.size, 0, none⟩) [x] := ⟨w6b.heap.size, 0, fun _ => rfl, fun r hr => by
          have hr0 : r = 0 := by simpa using hr
          subst hr0
          exact ⟨xa, xc, f6, rX7, nX⟩⟩
        have HW7 : Hid (w7 = (w6b.alloc (.cells #[.slice xa x.length xc] 38)).alloc (.cells #[.slice (some ⟨w6b.heap.size, 0, none⟩) 1 1, .slice none 0 0] 37)) := hw7e
        have m1 : ∀ w', Below w7.heap.size w7 w' → Calls Try.prog 18 #[.agg #[.slice (some ⟨w4.heap.size, 0, none⟩) 1 1, .slice ba B.length bc]] w' fun e w'' => e = .returned (.string (DA.extract 0 I ++ ⟨#[]⟩ ++ TX ++ DA.extract I DA.size)) ∧ Below w'.heap.size w' w'' := fun w' hb => k1 w' (h67.trans (hb.mono h67.size))
        have k3 : ∀ w', Below w7.heap.size w7 w' → Calls Try.prog 18 #[.agg #[.slice (some ⟨w6b.heap.size, 0, none⟩) 1 1, .slice none 0 0]] w' fun e w'' => e = .returned (.string TX) ∧ Below w'.heap.size w' w'' := fun w' hb => by
          have h := string_deal (some ⟨w6b.heap.size, 0, none⟩) none [x] [] 1 0 w' (rO7.later hb) (RowsAt.nil _ _) pO (fun r hr => absurd hr (by simp)) (by simp [vol, volUpto]; omega) (Nat.le_refl _) (fun _ => ⟨rfl, rfl⟩)
          rw [law_position_alone, ← hTX] at h
          exact h
        clear hw7e h67 hb67 hb6 f0 f1 f6 rX6 rX7 rO7 b06 s56 k1 pO hTX
        have ad1 : ∀ w, (Op.stringOp .add (DA.extract 0 I) ⟨#[]⟩).run Try.prog w = .ok (.string (DA.extract 0 I ++ ⟨#[]⟩)) w := fun w => run_string_add_sum w _ _ (by rw [ByteArray.size_extract]; show _ + 0 ≤ _; omega)
        have ad2 : ∀ w, (Op.stringOp .add (DA.extract 0 I ++ ⟨#[]⟩) TX).run Try.prog w = .ok (.string (DA.extract 0 I ++ ⟨#[]⟩ ++ TX)) w := fun w => run_string_add_sum w _ _ (by rw [ByteArray.size_append, ByteArray.size_extract]; show _ + 0 + TX.size ≤ _; omega)
        have ad3 : ∀ w, (Op.stringOp .add (DA.extract 0 I ++ ⟨#[]⟩ ++ TX) (DA.extract I DA.size)).run Try.prog w = .ok (.string (DA.extract 0 I ++ ⟨#[]⟩ ++ TX ++ DA.extract I DA.size)) w := fun w => run_string_add_sum w _ _ (by rw [ByteArray.size_append, ByteArray.size_append, ByteArray.size_extract, ByteArray.size_extract]; show _ + 0 + TX.size + _ ≤ _; omega)
        go_wp2_with fail
        rw [← HW7.out]
        go_region_held3 (fun w' => Below w7.heap.size w7 w' ∧ w'.cell? ⟨wr.heap.size, 0, none⟩ = some (.slice (some ⟨w4.heap.size, 0, none⟩) 1 1) ∧ w'.cell? ⟨wr.heap.size, 1, none⟩ = some (.slice ba B.length bc) ∧ w'.cell? ⟨w6b.heap.size + 1, 0, none⟩ = some (.slice (some ⟨w6b.heap.size, 0, none⟩) 1 1) ∧ w'.cell? ⟨w6b.heap.size + 1, 1, none⟩ = some (.slice none 0 0)) (first | exact ⟨(Below.refl _ _).drew, F0, F1, f4, f5⟩ | exact held_later (by assumption) (by assumption)) (first | (go_at_call_of 18 (w4.heap.size); refine (m1 _ (And.left (by assumption))).mono ?_; rintro e w8 ⟨rfl, hb8⟩) | (go_at_call_of 18 (w6b.heap.size); refine (k3 _ (And.left (by assumption))).mono ?_; rintro e w8 ⟨rfl, hb8⟩))
        go_wp2
        go_ret
        exact ⟨rfl, held_fin b07 (by assumption)⟩

end Go.Proofs.Qxb6609030a.PosWalk
