/-
  The plain side of the two statements on Deal.String: what a deal's text is, and the two laws. No program in sight.
-/
import Derived.Below
namespace Go.Proofs.Qxb6609030a.Text

/-! ### A card's two bytes; a row's text -/
def rankB (c : Int) : UInt8 := ([50, 51, 52, 53, 54, 55, 56, 57, 84, 74, 81, 75, 65] : List UInt8).getD (c / 4).toNat 0
def suitB (c : Int) : UInt8 := ([99, 100, 104, 115] : List UInt8).getD (c % 4).toNat 0
def text (zs : List Int) : List UInt8 := zs.flatMap fun c => [rankB c, suitB c]

theorem text_nil : text [] = [] := rfl
theorem text_snoc (zs : List Int) (c : Int) : text (zs ++ [c]) = text zs ++ [rankB c] ++ [suitB c] := by simp [text]
theorem text_length (zs : List Int) : (text zs).length = 2 * zs.length := by
  induction zs with
  | nil => rfl
  | cons z zs ih => simp only [text, List.flatMap_cons, List.length_append, List.length_cons, List.length_nil] at ih ⊢; omega

def Pack (zs : List Int) : Prop := ∀ i, i < zs.length → 0 ≤ zs.getD i 0 ∧ zs.getD i 0 < 52

theorem take_snoc (zs : List Int) (k : Nat) (h : k < zs.length) : zs.take (k + 1) = zs.take k ++ [zs.getD k 0] := by
  rw [List.take_succ_eq_append_getElem h]
  simp [List.getElem?_eq_getElem h]

/-! ### A deal's text, as the loops lay it -/
def holeUpto (H : List (List Int)) : Nat → List UInt8
  | 0 => []
  | k + 1 => holeUpto H k ++ (if 0 < k then [124] else []) ++ text (H.getD k [])

def boardUpto (B : List (List Int)) : Nat → List UInt8
  | 0 => []
  | k + 1 => boardUpto B k ++ (if 0 < k ∨ 0 < (B.getD k []).length then [47] else []) ++ text (B.getD k [])

def dealText (H B : List (List Int)) : List UInt8 := holeUpto H H.length ++ boardUpto B B.length

/-! ### Sizes -/
def volUpto (R : List (List Int)) : Nat → Nat
  | 0 => 0
  | k + 1 => volUpto R k + (R.getD k []).length

theorem volUpto_mono (R : List (List Int)) {j k : Nat} (h : j ≤ k) : volUpto R j ≤ volUpto R k := by
  induction k with
  | zero => have : j = 0 := by omega
            subst this; exact Nat.le_refl _
  | succ k ih =>
    by_cases e : j = k + 1
    · subst e; exact Nat.le_refl _
    · have := ih (by omega); simp only [volUpto]; omega

def vol (R : List (List Int)) : Nat := volUpto R R.length

theorem vol_row (R : List (List Int)) {k : Nat} (h : k < R.length) : (R.getD k []).length ≤ vol R := by
  have := volUpto_mono R (show k + 1 ≤ R.length by omega)
  simp only [volUpto] at this
  unfold vol
  omega

theorem holeUpto_length (H : List (List Int)) (k : Nat) : (holeUpto H k).length ≤ k + 2 * volUpto H k := by
  induction k with
  | zero => simp [holeUpto]
  | succ k ih =>
    simp only [holeUpto, volUpto, List.length_append, text_length]
    split <;> simp <;> omega

theorem boardUpto_length (B : List (List Int)) (k : Nat) : (boardUpto B k).length ≤ k + 2 * volUpto B k := by
  induction k with
  | zero => simp [boardUpto]
  | succ k ih =>
    simp only [boardUpto, volUpto, List.length_append, text_length]
    split <;> simp <;> omega

theorem dealText_length (H B : List (List Int)) : (dealText H B).length ≤ H.length + 2 * vol H + (B.length + 2 * vol B) := by
  have h1 := holeUpto_length H H.length
  have h2 := boardUpto_length B B.length
  simp only [dealText, List.length_append, vol]
  omega

/-! ### What depends on the first rows alone -/
theorem getD_snoc_lt {R : List (List Int)} {e : List Int} {k : Nat} (h : k < R.length) : (R ++ [e]).getD k [] = R.getD k [] := by
  simp [List.getElem?_append_left h]
theorem getD_snoc_at {R : List (List Int)} {e : List Int} : (R ++ [e]).getD R.length [] = e := by simp

theorem holeUpto_snoc (R : List (List Int)) (e : List Int) (k : Nat) (h : k ≤ R.length) : holeUpto (R ++ [e]) k = holeUpto R k := by
  induction k with
  | zero => rfl
  | succ k ih => simp only [holeUpto]; rw [ih (by omega), getD_snoc_lt (by omega)]

theorem boardUpto_snoc (R : List (List Int)) (e : List Int) (k : Nat) (h : k ≤ R.length) : boardUpto (R ++ [e]) k = boardUpto R k := by
  induction k with
  | zero => rfl
  | succ k ih => simp only [boardUpto]; rw [ih (by omega), getD_snoc_lt (by omega)]

theorem volUpto_snoc (R : List (List Int)) (e : List Int) (k : Nat) (h : k ≤ R.length) : volUpto (R ++ [e]) k = volUpto R k := by
  induction k with
  | zero => rfl
  | succ k ih => simp only [volUpto]; rw [ih (by omega), getD_snoc_lt (by omega)]

theorem vol_snoc (R : List (List Int)) (e : List Int) : vol (R ++ [e]) = vol R + e.length := by
  unfold vol
  rw [List.length_append, List.length_singleton]
  simp only [volUpto]
  rw [volUpto_snoc _ _ _ (Nat.le_refl _), getD_snoc_at]

/-! ### THE FIRST LAW: one more round -/
theorem law_round (H B : List (List Int)) (e : List Int) :
    dealText H (B ++ [e]) = dealText H B ++ (if 0 < B.length ∨ 0 < e.length then [47] else []) ++ text e := by
  unfold dealText
  rw [List.length_append, List.length_singleton]
  simp only [boardUpto]
  rw [boardUpto_snoc _ _ _ (Nat.le_refl _), getD_snoc_at]
  simp only [List.append_assoc]

theorem law_round_alone (e : List Int) : dealText [] [e] = (if 0 < e.length then [47] else []) ++ text e := by
  simp [dealText, holeUpto, boardUpto]

/-! ### THE SECOND LAW: one more position -/
theorem rankB_ne (c : Int) : rankB c ≠ 47 := by
  unfold rankB
  generalize (c / 4).toNat = k
  match k with
  | 0 | 1 | 2 | 3 | 4 | 5 | 6 | 7 | 8 | 9 | 10 | 11 | 12 => decide
  | k + 13 => simp
theorem suitB_ne (c : Int) : suitB c ≠ 47 := by
  unfold suitB
  generalize (c % 4).toNat = k
  match k with
  | 0 | 1 | 2 | 3 => decide
  | k + 4 => simp
theorem text_no (zs : List Int) : ∀ b ∈ text zs, b ≠ 47 := by
  intro b hb
  simp only [text, List.mem_flatMap] at hb
  obtain ⟨c, _, hc⟩ := hb
  simp only [List.mem_cons, List.not_mem_nil, or_false] at hc
  rcases hc with rfl | rfl
  · exact rankB_ne c
  · exact suitB_ne c
theorem holeUpto_no (H : List (List Int)) (k : Nat) : ∀ b ∈ holeUpto H k, b ≠ 47 := by
  induction k with
  | zero => intro b hb; simp [holeUpto] at hb
  | succ k ih =>
    intro b hb
    simp only [holeUpto, List.mem_append] at hb
    rcases hb with (hb | hb) | hb
    · exact ih b hb
    · split at hb
      · simp at hb; subst hb; decide
      · simp at hb
    · exact text_no _ b hb
theorem boardUpto_head (B : List (List Int)) (k : Nat) : boardUpto B k = [] ∨ ∃ t, boardUpto B k = 47 :: t := by
  induction k with
  | zero => exact .inl rfl
  | succ k ih =>
    rcases ih with h | ⟨t, h⟩
    · by_cases hc : 0 < k ∨ 0 < (B.getD k []).length
      · refine .inr ⟨text (B.getD k []), ?_⟩
        simp only [boardUpto]; rw [h, if_pos hc]; rfl
      · refine .inl ?_
        simp only [boardUpto]; rw [h, if_neg hc]
        have e0 : B.getD k [] = [] := List.eq_nil_of_length_eq_zero (by omega)
        rw [e0]; rfl
    · refine .inr ⟨t ++ ((if 0 < k ∨ 0 < (B.getD k []).length then [47] else []) ++ text (B.getD k [])), ?_⟩
      simp only [boardUpto]; rw [h]; simp only [List.cons_append, List.append_assoc]

/-- Where the first slash stands: how many bytes stand ahead of it. -/
def slash (l : List UInt8) : Nat := (l.takeWhile (· != 47)).length

theorem takeWhile_all {l r : List UInt8} (h : ∀ b ∈ l, b ≠ 47) : (l ++ r).takeWhile (· != 47) = l ++ r.takeWhile (· != 47) := by
  induction l with
  | nil => rfl
  | cons x l ih =>
    have hx : (x != 47) = true := by simpa using h x (by simp)
    simp only [List.cons_append, List.takeWhile_cons, hx, if_true]
    rw [ih (fun b hb => h b (List.mem_cons_of_mem _ hb))]

theorem slash_deal (H B : List (List Int)) : slash (dealText H B) = (holeUpto H H.length).length := by
  unfold slash dealText
  rw [takeWhile_all (holeUpto_no H H.length)]
  rcases boardUpto_head B B.length with h | ⟨t, h⟩
  · rw [h]; simp
  · rw [h]; simp

theorem law_position (H B : List (List Int)) (e : List Int) :
    dealText (H ++ [e]) B = (dealText H B).take (slash (dealText H B)) ++ (if 0 < H.length then [124] else []) ++ text e ++ (dealText H B).drop (slash (dealText H B)) := by
  rw [slash_deal]
  have e1 : (dealText H B).take (holeUpto H H.length).length = holeUpto H H.length := by unfold dealText; rw [List.take_left']; rfl
  have e2 : (dealText H B).drop (holeUpto H H.length).length = boardUpto B B.length := by unfold dealText; rw [List.drop_left']; rfl
  rw [e1, e2]
  unfold dealText
  rw [List.length_append, List.length_singleton]
  simp only [holeUpto]
  rw [holeUpto_snoc _ _ _ (Nat.le_refl _), getD_snoc_at]

theorem law_position_alone (e : List Int) : dealText [e] [] = text e := by
  simp [dealText, holeUpto, boardUpto]

end Go.Proofs.Qxb6609030a.Text
