/-
  Plain lemmas on flag bits: what MergeContentsWith leaves of the flags is what the law says. Conditions: sixteen bits.
-/
import Derived.Test.YtbppncnhdhogbaaDoorFm
import Derived.Laws.BitsLemmas
namespace Go.Proofs.YtbppncnhdhogbaaDoor.Fk
open Go.RowKit Fm
set_option linter.unusedVariables false
theorem and2 (n : Nat) : n &&& 2 = 0 ∨ n &&& 2 = 2 := by
  by_cases h : n.testBit 1
  · right
    apply Nat.eq_of_testBit_eq
    intro i
    rw [Nat.testBit_and, show (2 : Nat) = 2 ^ 1 from rfl, Nat.testBit_two_pow]
    by_cases e : 1 = i
    · subst e; simp [h]
    · simp [e]
  · left
    apply Nat.eq_of_testBit_eq
    intro i
    rw [Nat.testBit_and, show (2 : Nat) = 2 ^ 1 from rfl, Nat.testBit_two_pow]
    by_cases e : 1 = i
    · subst e; simp [h]
    · simp [e]
theorem or1 (n : Nat) (h : n &&& 1 ≠ 0) : n ||| 1 = n := by
  have h0 : n.testBit 0 = true := by
    rw [Nat.and_one_is_mod] at h
    rw [Nat.testBit_zero]
    simp; omega
  apply Nat.eq_of_testBit_eq
  intro i
  rw [Nat.testBit_or, show (1 : Nat) = 2 ^ 0 from rfl, Nat.testBit_two_pow]
  by_cases e : 0 = i
  · subst e; simp [h0]
  · simp [e]
theorem and3 (n : Nat) : n &&& 3 = (n &&& 1) ||| (n &&& 2) := by
  rw [show (3 : Nat) = 1 ||| 2 from rfl, Nat.and_or_distrib_left]
theorem mgK_nat (kn ko : Nat) (hn : kn < 65536) (ho : ko < 65536) : mgK (kn : Int) (ko : Int) = bits .or .u16 (kn : Int) (bits .and .u16 (ko : Int) 3) := by
  have o1 : kn ||| 1 < 65536 := Nat.or_lt_two_pow (n := 16) (by omega) (by omega)
  have a3 : ko &&& 3 < 65536 := Nat.lt_of_le_of_lt Nat.and_le_left ho
  have e3 : bits .and .u16 (ko : Int) 3 = ((ko &&& 3 : Nat) : Int) := u16_and_nat ko 3 ho (by omega)
  have e1 : bits .and .u16 (ko : Int) 1 = ((ko &&& 1 : Nat) : Int) := u16_and_nat ko 1 ho (by omega)
  have e2 : bits .and .u16 (ko : Int) 2 = ((ko &&& 2 : Nat) : Int) := u16_and_nat ko 2 ho (by omega)
  have en : bits .and .u16 (kn : Int) 1 = ((kn &&& 1 : Nat) : Int) := u16_and_nat kn 1 hn (by omega)
  have p1 : bits .or .u16 (kn : Int) 1 = ((kn ||| 1 : Nat) : Int) := u16_or_nat kn 1 hn (by omega)
  have p2 : bits .or .u16 (kn : Int) 2 = ((kn ||| 2 : Nat) : Int) := u16_or_nat kn 2 hn (by omega)
  have p12 : bits .or .u16 ((kn ||| 1 : Nat) : Int) 2 = ((kn ||| 1 ||| 2 : Nat) : Int) := u16_or_nat (kn ||| 1) 2 o1 (by omega)
  unfold mgK hasB orB
  rw [e3, u16_or_nat kn (ko &&& 3) hn a3, e1, e2, en, p1, and3]
  have m1 : ko &&& 1 = 0 ∨ ko &&& 1 = 1 := by rw [Nat.and_one_is_mod]; omega
  have m2 := and2 ko
  rcases m1 with m1 | m1 <;> rcases m2 with m2 | m2 <;> rw [m1, m2]
  · simp
  · simp [p2]
  · by_cases h : kn &&& 1 = 0
    · simp [h]
    · simp [or1 kn h]
  · by_cases h : kn &&& 1 = 0
    · simp [h, p12, Nat.or_assoc]
    · have := or1 kn h
      have h2 : kn ||| (1 ||| 2) = kn ||| 2 := by rw [← Nat.or_assoc, this]
      simp only [Nat.reduceOr] at h2
      have h' : ¬ (kn : Int) % 2 = 0 := by rw [Nat.and_one_is_mod] at h; omega
      simp [h', p2, h2]
theorem mgK_eq (kn ko : Int) (hn : 0 ≤ kn ∧ kn ≤ 65535) (ho : 0 ≤ ko ∧ ko ≤ 65535) : mgK kn ko = bits .or .u16 kn (bits .and .u16 ko 3) := by
  obtain ⟨kn, rfl⟩ := Int.eq_ofNat_of_zero_le hn.1
  obtain ⟨ko, rfl⟩ := Int.eq_ofNat_of_zero_le ho.1
  exact mgK_nat kn ko (by omega) (by omega)
end Go.Proofs.YtbppncnhdhogbaaDoor.Fk
