/-
  The plain law of FnOpensMultiLineCountsARunOfQuotes: no program in sight but the Bool function 'opens'.
-/
import Derived.Test.Qxb6614697aZz
namespace Go.Proofs.Qxb6614697a.Count
open Go.Proofs.Qxb6614697a.Opens

/-- What the made text holds at offset i: the prefix, n times q, the tail. -/
def cont (lp n : Nat) (zp : List Int) (q : Int) (zt : List Int) (i : Nat) : Int := if i < lp then zp.getD i 0 else if i < lp + n then q else zt.getD (i - (lp + n)) 0

theorem cont_p {lp n : Nat} {zp : List Int} {q : Int} {zt : List Int} {k : Nat} (h : k < lp) : zp.getD k 0 = cont lp n zp q zt k := by unfold cont; rw [if_pos h]
theorem cont_q {lp n : Nat} {zp : List Int} {q : Int} {zt : List Int} {k : Nat} (h : k < n) : q = cont lp n zp q zt (lp + k) := by unfold cont; rw [if_neg (by omega), if_pos (by omega)]
theorem cont_t {lp n : Nat} {zp : List Int} {q : Int} {zt : List Int} {k : Nat} : zt.getD k 0 = cont lp n zp q zt (lp + n + k) := by unfold cont; rw [if_neg (by omega), if_neg (by omega), show lp + n + k - (lp + n) = k by omega]

def isq (q : Int) : Bool := q == 34 || q == 39

theorem opens_run (lp n lt : Nat) (zp : List Int) (q : Int) (zt : List Int) (ht : 0 < lt → zt.getD 0 0 ≠ q) (j : Nat) (hj : j < n) :
    opens (lp + n + lt) (cont lp n zp q zt) (lp + j) = (isq q && decide (j + 2 < n)) := by
  have c0 : cont lp n zp q zt (lp + j) = q := by unfold cont; rw [if_neg (by omega), if_pos (by omega)]
  by_cases h : j + 2 < n
  · have c1 : cont lp n zp q zt (lp + j + 1) = q := by unfold cont; rw [if_neg (by omega), if_pos (by omega)]
    have c2 : cont lp n zp q zt (lp + j + 2) = q := by unfold cont; rw [if_neg (by omega), if_pos (by omega)]
    have hb : lp + j + 2 < lp + n + lt := by omega
    simp [opens, c0, c1, c2, three, h, hb, isq]
  · simp only [h, decide_false, Bool.and_false]
    unfold opens
    by_cases hb : lp + j + 2 < lp + n + lt
    · have hlt := ht (by omega)
      have ct : cont lp n zp q zt (lp + n) ≠ q := by
        unfold cont
        rw [if_neg (by omega), if_neg (by omega), show lp + n - (lp + n) = 0 by omega]
        exact hlt
      simp only [hb, decide_true, Bool.true_and, c0]
      by_cases e : j + 1 = n
      · have e1 : (cont lp n zp q zt (lp + j + 1) == q) = false := by rw [show lp + j + 1 = lp + n by omega]; simpa using ct
        simp [three, e1]
      · have e2 : (cont lp n zp q zt (lp + j + 2) == q) = false := by rw [show lp + j + 2 = lp + n by omega]; simpa using ct
        simp [three, e2]
    · simp [hb]

/-- How many of the run's first j offsets open a multi-line string. -/
def cnt (n : Nat) (q : Int) (j : Nat) : Nat := if isq q then min j (n - 2) else 0

theorem cnt_le (n : Nat) (q : Int) (j : Nat) : cnt n q j ≤ j := by
  unfold cnt; split <;> omega

theorem cnt_yes (n : Nat) (q : Int) (j : Nat) (h : (isq q && decide (j + 2 < n)) = true) : cnt n q (j + 1) = cnt n q j + 1 := by
  simp at h
  unfold cnt
  rw [if_pos h.1, if_pos h.1]
  omega

theorem cnt_no (n : Nat) (q : Int) (j : Nat) (h : (isq q && decide (j + 2 < n)) = false) : cnt n q (j + 1) = cnt n q j := by
  unfold cnt
  by_cases hq : isq q = true
  · simp [hq] at h
    rw [if_pos hq, if_pos hq]
    omega
  · rw [if_neg hq, if_neg hq]

theorem cnt_end_yes (n : Nat) (q : Int) (hq : isq q = true) (hn : 2 < n) : ((cnt n q n : Nat) : Int) = (n : Int) - 2 := by
  unfold cnt; rw [if_pos hq]; omega

theorem cnt_end_no (n : Nat) (q : Int) (h : isq q = false ∨ n ≤ 2) : ((cnt n q n : Nat) : Int) = 0 := by
  unfold cnt
  rcases h with h | h
  · rw [h]; rfl
  · split <;> omega

end Go.Proofs.Qxb6614697a.Count
