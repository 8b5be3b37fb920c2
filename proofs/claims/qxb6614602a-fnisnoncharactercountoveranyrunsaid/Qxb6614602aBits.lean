/-
  Plain facts on the bits of int32's values that are not negative, as the walk spells them. No program in sight.
-/
import Derived.Laws.DeepBits32
namespace Go.Proofs.Qxb6614602a.Bits

theorem ofInt_i32 (a : Nat) (ha : a < 2147483648) : (BitVec.ofInt 32 (a : Int)).toNat = a := by
  rw [BitVec.ofInt_natCast, BitVec.toNat_ofNat]; exact Nat.mod_eq_of_lt (by omega)

theorem wrap_small (a : Nat) (ha : a < 2147483648) : IntKind.i32.wrap (a : Int) = (a : Int) := by
  exact wrap_i32_small _ (by omega) (by omega)

theorem and_nat (a b : Nat) (ha : a < 2147483648) (hb : b < 2147483648) : bits .and .i32 (a : Int) (b : Int) = ((a &&& b : Nat) : Int) := by
  have hx : a &&& b < 2 ^ 31 := Nat.and_lt_two_pow _ (by omega)
  show IntKind.i32.wrap ((BitVec.ofInt 32 (a : Int) &&& BitVec.ofInt 32 (b : Int)).toNat : Int) = _
  rw [BitVec.toNat_and, ofInt_i32 a ha, ofInt_i32 b hb]
  exact wrap_small _ (by omega)

theorem or_nat (a b : Nat) (ha : a < 2147483648) (hb : b < 2147483648) : bits .or .i32 (a : Int) (b : Int) = ((a ||| b : Nat) : Int) := by
  have hx : a ||| b < 2 ^ 31 := Nat.or_lt_two_pow (by omega) (by omega)
  show IntKind.i32.wrap ((BitVec.ofInt 32 (a : Int) ||| BitVec.ofInt 32 (b : Int)).toNat : Int) = _
  rw [BitVec.toNat_or, ofInt_i32 a ha, ofInt_i32 b hb]
  exact wrap_small _ (by omega)

theorem xor_nat (a b : Nat) (ha : a < 2147483648) (hb : b < 2147483648) : bits .xor .i32 (a : Int) (b : Int) = ((a ^^^ b : Nat) : Int) := by
  have hx : a ^^^ b < 2 ^ 31 := Nat.xor_lt_two_pow (by omega) (by omega)
  show IntKind.i32.wrap ((BitVec.ofInt 32 (a : Int) ^^^ BitVec.ofInt 32 (b : Int)).toNat : Int) = _
  rw [BitVec.toNat_xor, ofInt_i32 a ha, ofInt_i32 b hb]
  exact wrap_small _ (by omega)

theorem andNot_nat (a b : Nat) (ha : a < 2147483648) (hb : b < 2147483648) : bits .andNot .i32 (a : Int) (b : Int) = ((a &&& (4294967295 - b) : Nat) : Int) := by
  have hx : a &&& (4294967295 - b) < 2 ^ 31 := by
    have := @Nat.and_le_left a (4294967295 - b)
    omega
  show IntKind.i32.wrap ((BitVec.ofInt 32 (a : Int) &&& ~~~BitVec.ofInt 32 (b : Int)).toNat : Int) = _
  rw [BitVec.toNat_and, BitVec.toNat_not, ofInt_i32 a ha, ofInt_i32 b hb]
  have e : 2 ^ 32 - 1 - b = 4294967295 - b := by omega
  rw [e]
  exact wrap_small _ (by omega)

/-- The low sixteen bits but the last. -/
theorem nat_and_fffe (a : Nat) : a &&& 65534 = a % 65536 - a % 2 := by
  apply Nat.eq_of_testBit_eq
  intro i
  rw [Nat.testBit_and]
  cases i with
  | zero =>
    have h1 : Nat.testBit 65534 0 = false := by decide
    have h2 : (a % 65536 - a % 2).testBit 0 = false := by
      rw [Nat.testBit_zero]
      have : (a % 65536 - a % 2) % 2 = 0 := by omega
      simp [this]
    rw [h1, h2, Bool.and_false]
  | succ i =>
    have h1 : Nat.testBit 65534 (i + 1) = decide (i < 15) := by
      rw [Nat.testBit_succ, show 65534 / 2 = 2 ^ 15 - 1 by decide, Nat.testBit_two_pow_sub_one]
    have h2 : (a % 65536 - a % 2).testBit (i + 1) = (decide (i < 15) && (a / 2).testBit i) := by
      rw [Nat.testBit_succ, show (a % 65536 - a % 2) / 2 = (a / 2) % 2 ^ 15 by omega, Nat.testBit_mod_two_pow]
    rw [h1, h2, Nat.testBit_succ, Bool.and_comm]

theorem nat_xor_one (a : Nat) : a ^^^ 1 = a + 1 - 2 * (a % 2) := by
  have h1 : (a ^^^ 1) / 2 = a / 2 := by rw [Nat.xor_div_two]; simp
  have h2 : (a ^^^ 1) % 2 = (a + 1) % 2 := by
    have h3 : (a ^^^ 1) % 2 ^ 1 = (a % 2 ^ 1) ^^^ (1 % 2 ^ 1) := Nat.xor_mod_two_pow
    have h4 : (a ^^^ 1) % 2 = (a % 2) ^^^ 1 := h3
    rw [h4]
    rcases Nat.mod_two_eq_zero_or_one a with h | h
    · rw [h, show 0 ^^^ 1 = 1 by decide]; omega
    · rw [h, show 1 ^^^ 1 = 0 by decide]; omega
  omega

theorem nat_or_low (p c : Nat) (hp : p % 65536 = 0) (hc : c < 65536) : p ||| c = p + c := by
  have : p = p / 65536 * 2 ^ 16 := by omega
  rw [this, Nat.mul_comm, ← Nat.two_pow_add_eq_or_of_lt (by omega)]

theorem nat_andNot_ffff (a : Nat) (ha : a < 2147483648) : a &&& 4294901760 = a - a % 65536 := by
  apply Nat.eq_of_testBit_eq
  intro i
  rw [Nat.testBit_and, show 4294901760 = 2 ^ 16 * (2 ^ 16 - 1) by decide, Nat.testBit_two_pow_mul, Nat.testBit_two_pow_sub_one,
    show a - a % 65536 = 2 ^ 16 * (a / 2 ^ 16) by omega, Nat.testBit_two_pow_mul]
  by_cases h : i ≥ 16
  · rw [Nat.testBit_div_two_pow]
    by_cases h2 : i - 16 < 16
    · simp [h, h2]
    · have h3 : a.testBit i = false := Nat.testBit_lt_two_pow (Nat.lt_of_lt_of_le ha (by
        have : 2 ^ 31 ≤ 2 ^ i := Nat.pow_le_pow_right (by omega) (by omega)
        simpa using this))
      simp [h, h2, h3]
  · simp [h]

theorem and_fffe (a : Int) (h0 : 0 ≤ a) (h1 : a < 2147483648) : bits .and .i32 a 65534 = a % 65536 - a % 2 := by
  obtain ⟨A, rfl⟩ := Int.eq_ofNat_of_zero_le h0
  rw [show (65534 : Int) = ((65534 : Nat) : Int) by rfl, and_nat A 65534 (by omega) (by omega), nat_and_fffe]
  omega

theorem andNot_ffff (a : Int) (h0 : 0 ≤ a) (h1 : a < 2147483648) : bits .andNot .i32 a 65535 = a - a % 65536 := by
  obtain ⟨A, rfl⟩ := Int.eq_ofNat_of_zero_le h0
  rw [show (65535 : Int) = ((65535 : Nat) : Int) by rfl, andNot_nat A 65535 (by omega) (by omega), show 4294967295 - 65535 = 4294901760 by rfl, nat_andNot_ffff A (by omega)]
  omega

theorem xor_one (a : Int) (h0 : 0 ≤ a) (h1 : a < 2147483648) : bits .xor .i32 a 1 = a + 1 - 2 * (a % 2) := by
  obtain ⟨A, rfl⟩ := Int.eq_ofNat_of_zero_le h0
  rw [show (1 : Int) = ((1 : Nat) : Int) by rfl, xor_nat A 1 (by omega) (by omega), nat_xor_one]
  omega

theorem or_low (p c : Int) (h0 : 0 ≤ p) (h1 : p < 2147483648) (hp : p % 65536 = 0) (c0 : 0 ≤ c) (hc : c < 65536) : bits .or .i32 p c = p + c := by
  obtain ⟨P, rfl⟩ := Int.eq_ofNat_of_zero_le h0
  obtain ⟨C, rfl⟩ := Int.eq_ofNat_of_zero_le c0
  rw [or_nat P C (by omega) (by omega), nat_or_low P C (by omega) (by omega)]
  omega

end Go.Proofs.Qxb6614602a.Bits
