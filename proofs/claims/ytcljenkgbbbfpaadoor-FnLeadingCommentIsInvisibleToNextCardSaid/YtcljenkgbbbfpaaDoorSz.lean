/-
  Contracts of the size guards of some laws. Conditions: sizes alone.
-/
import Derived.Test.YtcljenkgbbbfpaaDoorRows
import Derived.Test.YtcljenkgbbbfpaaDoorMem
import Derived.WalkKit
import Derived.Handy
import Derived.Lib.Hide
namespace Go.Proofs.YtcljenkgbbbfpaaDoor.Sz
open Go.RowKit Mem
set_option linter.unusedVariables false
/-- The sizes of the first n strings, added up. -/
def tot (S : Nat → ByteArray) : Nat → Nat
  | 0 => 0
  | n + 1 => tot S n + (S n).size
theorem tot0 (S : Nat → ByteArray) : tot S 0 = 0 := rfl
theorem totS (S : Nat → ByteArray) (n : Nat) : tot S (n + 1) = tot S n + (S n).size := rfl
theorem tot_mono (S : Nat → ByteArray) : ∀ {m n : Nat}, m ≤ n → tot S m ≤ tot S n
  | m, 0, h => by obtain rfl : m = 0 := by omega
                  exact Nat.le_refl _
  | m, n + 1, h => by
    rcases Nat.eq_or_lt_of_le h with rfl | h'
    · exact Nat.le_refl _
    · exact Nat.le_trans (tot_mono S (by omega : m ≤ n)) (by simp [tot])
theorem tot_at (S : Nat → ByteArray) {k n : Nat} (h : k < n) : tot S k + (S k).size ≤ tot S n := tot_mono S (m := k + 1) (by omega)
def szOk (t : Nat) : Bool := decide (t ≤ 1048576)
theorem szOk_yes {t : Nat} (h : t ≤ 1048576) : szOk t = true := by simp [szOk, h]
theorem szOk_no {t : Nat} (h : ¬ t ≤ 1048576) : szOk t = false := by simp only [szOk, decide_eq_false_iff_not]; exact h
theorem vi {k : IntKind} {a b : Int} (h : a = b) : Value.int k a = .int k b := by rw [h]
set_option maxRecDepth 100000 in
set_option maxHeartbeats 4000000 in
theorem bytes9 (s0 : ByteArray) (w : World) (hs0 : s0.size ≤ maxLen) :
    Calls Tryd.prog 9 #[.string s0] w fun e w' => e = .returned (.bool (szOk (s0.size))) ∧ w = w' := by
  unfold maxLen at hs0
  go_enter Tryd.func9, Tryd.ntmps9
  by_cases g0 : s0.size ≤ 1048576
  · skip
    go_wp2
    go_ret
    exact ⟨by rw [szOk_yes (t := s0.size) (by omega)]; rfl, rfl⟩
  · go_wp2
    all_goals go_ret
    all_goals exact ⟨by rw [szOk_no (t := s0.size) (by omega)]; rfl, rfl⟩
set_option maxRecDepth 100000 in
set_option maxHeartbeats 4000000 in
theorem bytes16 (A0 : Option Addr) (n0 c0 : Nat) (A1 : Option Addr) (n1 c1 : Nat) (w : World) (hn0 : n0 ≤ maxLen) (hn1 : n1 ≤ maxLen) :
    Calls Tryd.prog 16 #[.slice A0 n0 c0, .slice A1 n1 c1] w fun e w' => e = .returned (.bool (szOk (n0 + n1))) ∧ w = w' := by
  unfold maxLen at hn0 hn1
  go_enter Tryd.func16, Tryd.ntmps16
  by_cases g0 : n0 ≤ 1048576
  · skip
    by_cases g1 : n0 + n1 ≤ 1048576
    · skip
      go_wp2
      go_ret
      exact ⟨by rw [szOk_yes (t := n0 + n1) (by omega)]; rfl, rfl⟩
    · go_wp2
      all_goals go_ret
      all_goals exact ⟨by rw [szOk_no (t := n0 + n1) (by omega)]; rfl, rfl⟩
  · go_wp2
    all_goals go_ret
    all_goals exact ⟨by rw [szOk_no (t := n0 + n1) (by omega)]; rfl, rfl⟩
set_option maxRecDepth 100000 in
set_option maxHeartbeats 4000000 in
theorem bytes20 (s0 : ByteArray) (A1 : Option Addr) (n1 c1 : Nat) (s2 : ByteArray) (i3 : Int) (b4 : Bool) (w : World) (hs0 : s0.size ≤ maxLen) (hn1 : n1 ≤ maxLen) (hs2 : s2.size ≤ maxLen) :
    Calls Tryd.prog 20 #[.string s0, .slice A1 n1 c1, .string s2, .int .u8 i3, .bool b4] w fun e w' => e = .returned (.bool (szOk (s0.size + n1 + s2.size))) ∧ w = w' := by
  unfold maxLen at hs0 hn1 hs2
  go_enter Tryd.func20, Tryd.ntmps20
  by_cases g0 : s0.size ≤ 1048576
  · skip
    by_cases g1 : s0.size + n1 ≤ 1048576
    · skip
      by_cases g2 : s0.size + n1 + s2.size ≤ 1048576
      · skip
        go_wp2
        go_ret
        exact ⟨by rw [szOk_yes (t := s0.size + n1 + s2.size) (by omega)]; rfl, rfl⟩
      · go_wp2
        all_goals go_ret
        all_goals exact ⟨by rw [szOk_no (t := s0.size + n1 + s2.size) (by omega)]; rfl, rfl⟩
    · go_wp2
      all_goals go_ret
      all_goals exact ⟨by rw [szOk_no (t := s0.size + n1 + s2.size) (by omega)]; rfl, rfl⟩
  · go_wp2
    all_goals go_ret
    all_goals exact ⟨by rw [szOk_no (t := s0.size + n1 + s2.size) (by omega)]; rfl, rfl⟩
set_option maxRecDepth 100000 in
set_option maxHeartbeats 4000000 in
theorem bytes28 (s0 : ByteArray) (i1 : Int) (w : World) (hs0 : s0.size ≤ maxLen) :
    Calls Tryd.prog 28 #[.string s0, .int .i64 i1] w fun e w' => e = .returned (.bool (szOk (s0.size))) ∧ w = w' := by
  unfold maxLen at hs0
  go_enter Tryd.func28, Tryd.ntmps28
  by_cases g0 : s0.size ≤ 1048576
  · skip
    go_wp2
    go_ret
    exact ⟨by rw [szOk_yes (t := s0.size) (by omega)]; rfl, rfl⟩
  · go_wp2
    all_goals go_ret
    all_goals exact ⟨by rw [szOk_no (t := s0.size) (by omega)]; rfl, rfl⟩
set_option maxRecDepth 100000 in
set_option maxHeartbeats 4000000 in
theorem bytes31 (s0 : ByteArray) (s1 : ByteArray) (w : World) (hs0 : s0.size ≤ maxLen) (hs1 : s1.size ≤ maxLen) :
    Calls Tryd.prog 31 #[.string s0, .string s1] w fun e w' => e = .returned (.bool (szOk (s0.size + s1.size))) ∧ w = w' := by
  unfold maxLen at hs0 hs1
  go_enter Tryd.func31, Tryd.ntmps31
  by_cases g0 : s0.size ≤ 1048576
  · skip
    by_cases g1 : s0.size + s1.size ≤ 1048576
    · skip
      go_wp2
      go_ret
      exact ⟨by rw [szOk_yes (t := s0.size + s1.size) (by omega)]; rfl, rfl⟩
    · go_wp2
      all_goals go_ret
      all_goals exact ⟨by rw [szOk_no (t := s0.size + s1.size) (by omega)]; rfl, rfl⟩
  · go_wp2
    all_goals go_ret
    all_goals exact ⟨by rw [szOk_no (t := s0.size + s1.size) (by omega)]; rfl, rfl⟩
end Go.Proofs.YtcljenkgbbbfpaaDoor.Sz
