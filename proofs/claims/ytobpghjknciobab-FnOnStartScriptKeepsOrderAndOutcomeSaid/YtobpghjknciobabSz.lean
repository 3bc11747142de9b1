/-
  Contracts of the size guards of some laws. Conditions: sizes alone.
-/
import Derived.Test.YtobpghjknciobabRows
import Derived.Test.YtobpghjknciobabMem
import Derived.WalkKit
import Derived.Handy
import Derived.Lib.Hide
namespace Go.Proofs.Ytobpghjknciobab.Sz
open Go.RowKit Mem
set_option linter.unusedVariables false
/-- The sizes of the first n strings, added up. -/
def tot (S : Nat → ByteArray) : Nat → Nat
  | 0 => 0
  | n + 1 => tot S n + (S n).size
theorem tot0 (S : Nat → ByteArray) : tot S 0 = 0 := rfl
theorem totS (S : Nat → ByteArray) (n : Nat) : tot S (n + 1) = tot S n + (S n).size := rfl
theorem tot_mono (S : Nat → ByteArray) : ∀ {m n : Nat}, m ≤ n → tot S m ≤ tot S n
  | m, 0, h => by obtain rfl : m = 0 := by omega
                  exact Nat.le_refl _
  | m, n + 1, h => by
    rcases Nat.eq_or_lt_of_le h with rfl | h'
    · exact Nat.le_refl _
    · exact Nat.le_trans (tot_mono S (by omega : m ≤ n)) (by simp [tot])
theorem tot_at (S : Nat → ByteArray) {k n : Nat} (h : k < n) : tot S k + (S k).size ≤ tot S n := tot_mono S (m := k + 1) (by omega)
def szOk (t : Nat) : Bool := decide (t ≤ 1048576)
theorem szOk_yes {t : Nat} (h : t ≤ 1048576) : szOk t = true := by simp [szOk, h]
theorem szOk_no {t : Nat} (h : ¬ t ≤ 1048576) : szOk t = false := by simp only [szOk, decide_eq_false_iff_not]; exact h
theorem vi {k : IntKind} {a b : Int} (h : a = b) : Value.int k a = .int k b := by rw [h]
set_option maxRecDepth 100000 in
set_option maxHeartbeats 4000000 in
theorem bytes4 (s0 : ByteArray) (A1 : Option Addr) (n1 c1 : Nat) (w : World) (hs0 : s0.size ≤ maxLen) (hn1 : n1 ≤ maxLen) :
    Calls Try.prog 4 #[.string s0, .slice A1 n1 c1] w fun e w' => e = .returned (.bool (szOk (s0.size + n1))) ∧ w = w' := by
  unfold maxLen at hs0 hn1
  go_enter Try.func4, Try.ntmps4
  by_cases g0 : s0.size ≤ 1048576
  · skip
    by_cases g1 : s0.size + n1 ≤ 1048576
    · skip
      go_wp2
      go_ret
      exact ⟨by rw [szOk_yes (t := s0.size + n1) (by omega)]; rfl, rfl⟩
    · go_wp2
      all_goals go_ret
      all_goals exact ⟨by rw [szOk_no (t := s0.size + n1) (by omega)]; rfl, rfl⟩
  · go_wp2
    all_goals go_ret
    all_goals exact ⟨by rw [szOk_no (t := s0.size + n1) (by omega)]; rfl, rfl⟩
end Go.Proofs.Ytobpghjknciobab.Sz
