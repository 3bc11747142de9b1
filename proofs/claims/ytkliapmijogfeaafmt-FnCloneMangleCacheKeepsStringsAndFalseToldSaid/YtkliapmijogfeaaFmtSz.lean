/-
  Contracts of the size guards of some laws. Conditions: sizes alone.
-/
import Derived.Test.YtkliapmijogfeaaFmtRows
import Derived.Test.YtkliapmijogfeaaFmtMem
import Derived.WalkKit
import Derived.Handy
import Derived.Lib.Hide
namespace Go.Proofs.YtkliapmijogfeaaFmt.Sz
open Go.RowKit Mem
set_option linter.unusedVariables false
/-- The sizes of the first n strings, added up. -/
def tot (S : Nat → ByteArray) : Nat → Nat
  | 0 => 0
  | n + 1 => tot S n + (S n).size
theorem tot0 (S : Nat → ByteArray) : tot S 0 = 0 := rfl
theorem totS (S : Nat → ByteArray) (n : Nat) : tot S (n + 1) = tot S n + (S n).size := rfl
theorem tot_mono (S : Nat → ByteArray) : ∀ {m n : Nat}, m ≤ n → tot S m ≤ tot S n
  | m, 0, h => by obtain rfl : m = 0 := by omega
                  exact Nat.le_refl _
  | m, n + 1, h => by
    rcases Nat.eq_or_lt_of_le h with rfl | h'
    · exact Nat.le_refl _
    · exact Nat.le_trans (tot_mono S (by omega : m ≤ n)) (by simp [tot])
theorem tot_at (S : Nat → ByteArray) {k n : Nat} (h : k < n) : tot S k + (S k).size ≤ tot S n := tot_mono S (m := k + 1) (by omega)
def szOk (t : Nat) : Bool := decide (t ≤ 1048576)
theorem szOk_yes {t : Nat} (h : t ≤ 1048576) : szOk t = true := by simp [szOk, h]
theorem szOk_no {t : Nat} (h : ¬ t ≤ 1048576) : szOk t = false := by simp only [szOk, decide_eq_false_iff_not]; exact h
theorem vi {k : IntKind} {a b : Int} (h : a = b) : Value.int k a = .int k b := by rw [h]
set_option maxRecDepth 100000 in
set_option maxHeartbeats 4000000 in
theorem bytes4 (b0 : Bool) (A1 : Option Addr) (n1 c1 : Nat) (S1 : Nat → ByteArray) (A2 : Option Addr) (n2 c2 : Nat) (S2 : Nat → ByteArray) (A3 : Option Addr) (n3 c3 : Nat) (w : World) (hA1 : Rd w w.heap.size 1 A1 n1 (fun j => .string (S1 j))) (hn1 : n1 ≤ maxLen) (hS1 : ∀ j, j < n1 → (S1 j).size ≤ maxLen) (hA2 : Rd w w.heap.size 1 A2 n2 (fun j => .string (S2 j))) (hn2 : n2 ≤ maxLen) (hS2 : ∀ j, j < n2 → (S2 j).size ≤ maxLen) (hn3 : n3 ≤ maxLen) :
    Calls Tryf.prog 4 #[.bool b0, .slice A1 n1 c1, .slice A2 n2 c2, .slice A3 n3 c3] w fun e w' => e = .returned (.bool (szOk ((n1 + tot S1 n1) + (n2 + tot S2 n2) + n3))) ∧ w = w' := by
  unfold maxLen at hn1 hn2 hn3
  have HA1 := Lib.hid hA1
  have HS1 := Lib.hid hS1
  have HA2 := Lib.hid hA2
  have HS2 := Lib.hid hS2
  clear hA1 hS1 hA2 hS2
  go_enter Tryf.func4, Tryf.ntmps4
  by_cases g0 : n1 ≤ 1048576
  · go_wp2
    go_loop [9, 10] (fun z i => ∃ k : Nat, k ≤ n1 ∧ i = .int .i64 k ∧ z = .int .i64 ((n1 + tot S1 k : Nat) : Int) ∧ n1 + tot S1 k ≤ 1048576) (fun _ i => n1 - (intOf i).toNat)
    case atStart => exact ⟨0, by omega, rfl, vi (by have := tot0 S1; omega), by have := tot0 S1; omega⟩
    case round =>
      obtain ⟨k1, hk1, rfl, rfl, hz1⟩ := hrel
      by_cases hlt : k1 < n1
      · obtain ⟨b, off, rfl, hb, hc⟩ := HA1.out (by omega)
        have hck := hc k1 (by omega)
        clear hc
        have hta := tot_at S1 hlt
        have hts := Lib.hid (totS S1 k1)
        by_cases gg : n1 + (tot S1 k1 + (S1 k1).size) ≤ 1048576
        · go_wp2
          go_round
          case rel => exact ⟨k1 + 1, by omega, by go_num, vi (by have := hts.out; omega), by have := hts.out; omega⟩
          case measure => simp [intOf]; omega
        · go_wp2
          all_goals go_ret
          all_goals exact ⟨by rw [szOk_no (t := (n1 + tot S1 n1) + (n2 + tot S2 n2) + n3) (by omega)]; rfl, rfl⟩
      · obtain rfl : n1 = k1 := by omega
        clear hlt
        by_cases g1 : n1 + tot S1 n1 + n2 ≤ 1048576
        · go_wp2
          go_loop [9, 11] (fun z i => ∃ k : Nat, k ≤ n2 ∧ i = .int .i64 k ∧ z = .int .i64 ((n1 + tot S1 n1 + n2 + tot S2 k : Nat) : Int) ∧ n1 + tot S1 n1 + n2 + tot S2 k ≤ 1048576) (fun _ i => n2 - (intOf i).toNat)
          case atStart => exact ⟨0, by omega, rfl, vi (by have := tot0 S2; omega), by have := tot0 S2; omega⟩
          case round =>
            obtain ⟨k2, hk2, rfl, rfl, hz2⟩ := hrel
            by_cases hlt : k2 < n2
            · obtain ⟨b, off, rfl, hb, hc⟩ := HA2.out (by omega)
              have hck := hc k2 (by omega)
              clear hc
              have hta := tot_at S2 hlt
              have hts := Lib.hid (totS S2 k2)
              by_cases gg : n1 + tot S1 n1 + n2 + (tot S2 k2 + (S2 k2).size) ≤ 1048576
              · go_wp2
                go_round
                case rel => exact ⟨k2 + 1, by omega, by go_num, vi (by have := hts.out; omega), by have := hts.out; omega⟩
                case measure => simp [intOf]; omega
              · go_wp2
                all_goals go_ret
                all_goals exact ⟨by rw [szOk_no (t := (n1 + tot S1 n1) + (n2 + tot S2 n2) + n3) (by omega)]; rfl, rfl⟩
            · obtain rfl : n2 = k2 := by omega
              clear hlt
              by_cases g2 : n1 + tot S1 n1 + n2 + tot S2 n2 + n3 ≤ 1048576
              · skip
                go_wp2
                go_ret
                exact ⟨by rw [szOk_yes (t := (n1 + tot S1 n1) + (n2 + tot S2 n2) + n3) (by omega)]; rfl, rfl⟩
              · go_wp2
                all_goals go_ret
                all_goals exact ⟨by rw [szOk_no (t := (n1 + tot S1 n1) + (n2 + tot S2 n2) + n3) (by omega)]; rfl, rfl⟩
        · go_wp2
          all_goals go_ret
          all_goals exact ⟨by rw [szOk_no (t := (n1 + tot S1 n1) + (n2 + tot S2 n2) + n3) (by omega)]; rfl, rfl⟩
  · go_wp2
    all_goals go_ret
    all_goals exact ⟨by rw [szOk_no (t := (n1 + tot S1 n1) + (n2 + tot S2 n2) + n3) (by omega)]; rfl, rfl⟩
end Go.Proofs.YtkliapmijogfeaaFmt.Sz
