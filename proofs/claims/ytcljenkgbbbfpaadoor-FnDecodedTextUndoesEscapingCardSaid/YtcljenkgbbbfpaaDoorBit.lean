/-
  Plain lemmas on Go's bit operations at int32: a mask of low bits is a remainder, an 'or' of parts that do not meet is a sum. Conditions: the numbers lie in the range.
-/
import Derived.WalkKit
import Derived.Laws.BitsAllLaws
namespace Go.Proofs.YtcljenkgbbbfpaaDoor.Bit
open Go.RowKit
theorem ofInt_i32 (a : Nat) (ha : a < 2147483648) : (BitVec.ofInt 32 (a : Int)).toNat = a := by
  rw [BitVec.ofInt_natCast, BitVec.toNat_ofNat]; exact Nat.mod_eq_of_lt (by omega)
theorem wrap_i32 (a : Nat) (ha : a < 2147483648) : IntKind.i32.wrap (a : Int) = a := by simp [IntKind.wrap, IntKind.bits, IntKind.signed]; omega
theorem i32_and_nat (a b : Nat) (ha : a < 2147483648) (hb : b < 2147483648) : bits .and .i32 (a : Int) (b : Int) = ((a &&& b : Nat) : Int) := by
  have hx : a &&& b < 2 ^ 31 := Nat.and_lt_two_pow _ (by omega)
  show IntKind.i32.wrap ((BitVec.ofInt 32 (a : Int) &&& BitVec.ofInt 32 (b : Int)).toNat : Int) = _
  rw [BitVec.toNat_and, ofInt_i32 a ha, ofInt_i32 b hb, wrap_i32 _ (by omega)]
theorem i32_or_nat (a b : Nat) (ha : a < 2147483648) (hb : b < 2147483648) : bits .or .i32 (a : Int) (b : Int) = ((a ||| b : Nat) : Int) := by
  have hx : a ||| b < 2 ^ 31 := Nat.or_lt_two_pow (by omega) (by omega)
  show IntKind.i32.wrap ((BitVec.ofInt 32 (a : Int) ||| BitVec.ofInt 32 (b : Int)).toNat : Int) = _
  rw [BitVec.toNat_or, ofInt_i32 a ha, ofInt_i32 b hb, wrap_i32 _ (by omega)]
theorem and_pow (r : Int) (n : Nat) (h0 : 0 ≤ r) (h1 : r < 2147483648) (hn : n ≤ 30) : bits .and .i32 r ((2 ^ n - 1 : Nat) : Int) = r % ((2 ^ n : Nat) : Int) := by
  obtain ⟨a, rfl⟩ := Int.eq_ofNat_of_zero_le h0
  have : 2 ^ n ≤ 2 ^ 30 := Nat.pow_le_pow_right (by omega) hn
  have := Nat.two_pow_pos n
  rw [i32_and_nat _ _ (by omega) (by omega), Nat.and_two_pow_sub_one_eq_mod]
  rfl
theorem and_63 (r : Int) (h0 : 0 ≤ r) (h1 : r < 2147483648) : bits .and .i32 r 63 = r % 64 := and_pow r 6 h0 h1 (by omega)
theorem and_31 (r : Int) (h0 : 0 ≤ r) (h1 : r < 2147483648) : bits .and .i32 r 31 = r % 32 := and_pow r 5 h0 h1 (by omega)
theorem and_15 (r : Int) (h0 : 0 ≤ r) (h1 : r < 2147483648) : bits .and .i32 r 15 = r % 16 := and_pow r 4 h0 h1 (by omega)
theorem and_7 (r : Int) (h0 : 0 ≤ r) (h1 : r < 2147483648) : bits .and .i32 r 7 = r % 8 := and_pow r 3 h0 h1 (by omega)
/-- High part a times 2^n, low part below 2^n. -/
theorem or_add (a b : Int) (n : Nat) (h0 : 0 ≤ a) (h1 : 0 ≤ b) (hm : a % ((2 ^ n : Nat) : Int) = 0) (hb : b < ((2 ^ n : Nat) : Int)) (hn : n ≤ 30) (ha : a < 2147483648) : bits .or .i32 a b = a + b := by
  obtain ⟨A, rfl⟩ := Int.eq_ofNat_of_zero_le h0
  obtain ⟨B, rfl⟩ := Int.eq_ofNat_of_zero_le h1
  have : 2 ^ n ≤ 2 ^ 30 := Nat.pow_le_pow_right (by omega) hn
  rw [i32_or_nat _ _ (by omega) (by omega)]
  have hm' : A % 2 ^ n = 0 := by omega
  obtain ⟨q, hq⟩ := Nat.dvd_of_mod_eq_zero hm'
  have hs := Nat.shiftLeft_add_eq_or_of_lt (show B < 2 ^ n by omega) q
  rw [Nat.shiftLeft_eq, Nat.mul_comm, ← hq] at hs
  rw [← hs]
  omega
theorem or_6 (a b : Int) (h0 : 0 ≤ a) (h1 : 0 ≤ b) (hm : a % 64 = 0) (hb : b < 64) (ha : a < 2147483648) : bits .or .i32 a b = a + b := or_add a b 6 h0 h1 hm hb (by omega) ha
theorem or_12 (a b : Int) (h0 : 0 ≤ a) (h1 : 0 ≤ b) (hm : a % 4096 = 0) (hb : b < 4096) (ha : a < 2147483648) : bits .or .i32 a b = a + b := or_add a b 12 h0 h1 hm hb (by omega) ha
theorem or_18 (a b : Int) (h0 : 0 ≤ a) (h1 : 0 ≤ b) (hm : a % 262144 = 0) (hb : b < 262144) (ha : a < 2147483648) : bits .or .i32 a b = a + b := or_add a b 18 h0 h1 hm hb (by omega) ha
theorem or_5 (a b : Int) (h0 : 0 ≤ a) (h1 : 0 ≤ b) (hm : a % 32 = 0) (hb : b < 32) (ha : a < 2147483648) : bits .or .i32 a b = a + b := or_add a b 5 h0 h1 hm hb (by omega) ha
theorem or_4 (a b : Int) (h0 : 0 ≤ a) (h1 : 0 ≤ b) (hm : a % 16 = 0) (hb : b < 16) (ha : a < 2147483648) : bits .or .i32 a b = a + b := or_add a b 4 h0 h1 hm hb (by omega) ha
theorem or_3 (a b : Int) (h0 : 0 ≤ a) (h1 : 0 ≤ b) (hm : a % 8 = 0) (hb : b < 8) (ha : a < 2147483648) : bits .or .i32 a b = a + b := or_add a b 3 h0 h1 hm hb (by omega) ha
end Go.Proofs.YtcljenkgbbbfpaaDoor.Bit
