/-
  Contracts of the size guards of some laws. Conditions: sizes alone.
-/
import Derived.Test.YtobpghjknciobaeFmtRows
import Derived.Test.YtobpghjknciobaeFmtMem
import Derived.WalkKit
import Derived.Handy
import Derived.Lib.Hide
namespace Go.Proofs.YtobpghjknciobaeFmt.Sz
open Go.RowKit Mem
set_option linter.unusedVariables false
/-- The sizes of the first n strings, added up. -/
def tot (S : Nat → ByteArray) : Nat → Nat
  | 0 => 0
  | n + 1 => tot S n + (S n).size
theorem tot0 (S : Nat → ByteArray) : tot S 0 = 0 := rfl
theorem totS (S : Nat → ByteArray) (n : Nat) : tot S (n + 1) = tot S n + (S n).size := rfl
theorem tot_mono (S : Nat → ByteArray) : ∀ {m n : Nat}, m ≤ n → tot S m ≤ tot S n
  | m, 0, h => by obtain rfl : m = 0 := by omega
                  exact Nat.le_refl _
  | m, n + 1, h => by
    rcases Nat.eq_or_lt_of_le h with rfl | h'
    · exact Nat.le_refl _
    · exact Nat.le_trans (tot_mono S (by omega : m ≤ n)) (by simp [tot])
theorem tot_at (S : Nat → ByteArray) {k n : Nat} (h : k < n) : tot S k + (S k).size ≤ tot S n := tot_mono S (m := k + 1) (by omega)
def szOk (t : Nat) : Bool := decide (t ≤ 1048576)
theorem szOk_yes {t : Nat} (h : t ≤ 1048576) : szOk t = true := by simp [szOk, h]
theorem szOk_no {t : Nat} (h : ¬ t ≤ 1048576) : szOk t = false := by simp only [szOk, decide_eq_false_iff_not]; exact h
theorem vi {k : IntKind} {a b : Int} (h : a = b) : Value.int k a = .int k b := by rw [h]
set_option maxRecDepth 100000 in
set_option maxHeartbeats 4000000 in
theorem bytes4 (A0 : Option Addr) (n0 c0 : Nat) (S0 : Nat → ByteArray) (A1 : Option Addr) (n1 c1 : Nat) (A2 : Option Addr) (n2 c2 : Nat) (S2 : Nat → ByteArray) (w : World) (hA0 : Rd w w.heap.size 1 A0 n0 (fun j => .string (S0 j))) (hn0 : n0 ≤ maxLen) (hS0 : ∀ j, j < n0 → (S0 j).size ≤ maxLen) (hn1 : n1 ≤ maxLen) (hA2 : Rd w w.heap.size 1 A2 n2 (fun j => .string (S2 j))) (hn2 : n2 ≤ maxLen) (hS2 : ∀ j, j < n2 → (S2 j).size ≤ maxLen) :
    Calls Tryf.prog 4 #[.slice A0 n0 c0, .slice A1 n1 c1, .slice A2 n2 c2] w fun e w' => e = .returned (.bool (szOk ((n0 + tot S0 n0) + n1 + (n2 + tot S2 n2)))) ∧ w = w' := by
  unfold maxLen at hn0 hn1 hn2
  have HA0 := Lib.hid hA0
  have HS0 := Lib.hid hS0
  have HA2 := Lib.hid hA2
  have HS2 := Lib.hid hS2
  clear hA0 hS0 hA2 hS2
  go_enter Tryf.func4, Tryf.ntmps4
  by_cases g0 : n0 ≤ 1048576
  · go_wp2
    go_loop [7, 8] (fun z i => ∃ k : Nat, k ≤ n0 ∧ i = .int .i64 k ∧ z = .int .i64 ((n0 + tot S0 k : Nat) : Int) ∧ n0 + tot S0 k ≤ 1048576) (fun _ i => n0 - (intOf i).toNat)
    case atStart => exact ⟨0, by omega, rfl, vi (by have := tot0 S0; omega), by have := tot0 S0; omega⟩
    case round =>
      obtain ⟨k0, hk0, rfl, rfl, hz0⟩ := hrel
      by_cases hlt : k0 < n0
      · obtain ⟨b, off, rfl, hb, hc⟩ := HA0.out (by omega)
        have hck := hc k0 (by omega)
        clear hc
        have hta := tot_at S0 hlt
        have hts := Lib.hid (totS S0 k0)
        by_cases gg : n0 + (tot S0 k0 + (S0 k0).size) ≤ 1048576
        · go_wp2
          go_round
          case rel => exact ⟨k0 + 1, by omega, by go_num, vi (by have := hts.out; omega), by have := hts.out; omega⟩
          case measure => simp [intOf]; omega
        · go_wp2
          all_goals go_ret
          all_goals exact ⟨by rw [szOk_no (t := (n0 + tot S0 n0) + n1 + (n2 + tot S2 n2)) (by omega)]; rfl, rfl⟩
      · obtain rfl : n0 = k0 := by omega
        clear hlt
        by_cases g1 : n0 + tot S0 n0 + n1 ≤ 1048576
        · skip
          by_cases g2 : n0 + tot S0 n0 + n1 + n2 ≤ 1048576
          · go_wp2
            go_loop [7, 9] (fun z i => ∃ k : Nat, k ≤ n2 ∧ i = .int .i64 k ∧ z = .int .i64 ((n0 + tot S0 n0 + n1 + n2 + tot S2 k : Nat) : Int) ∧ n0 + tot S0 n0 + n1 + n2 + tot S2 k ≤ 1048576) (fun _ i => n2 - (intOf i).toNat)
            case atStart => exact ⟨0, by omega, rfl, vi (by have := tot0 S2; omega), by have := tot0 S2; omega⟩
            case round =>
              obtain ⟨k2, hk2, rfl, rfl, hz2⟩ := hrel
              by_cases hlt : k2 < n2
              · obtain ⟨b, off, rfl, hb, hc⟩ := HA2.out (by omega)
                have hck := hc k2 (by omega)
                clear hc
                have hta := tot_at S2 hlt
                have hts := Lib.hid (totS S2 k2)
                by_cases gg : n0 + tot S0 n0 + n1 + n2 + (tot S2 k2 + (S2 k2).size) ≤ 1048576
                · go_wp2
                  go_round
                  case rel => exact ⟨k2 + 1, by omega, by go_num, vi (by have := hts.out; omega), by have := hts.out; omega⟩
                  case measure => simp [intOf]; omega
                · go_wp2
                  all_goals go_ret
                  all_goals exact ⟨by rw [szOk_no (t := (n0 + tot S0 n0) + n1 + (n2 + tot S2 n2)) (by omega)]; rfl, rfl⟩
              · obtain rfl : n2 = k2 := by omega
                clear hlt
                go_wp2
                go_ret
                exact ⟨by rw [szOk_yes (t := (n0 + tot S0 n0) + n1 + (n2 + tot S2 n2)) (by omega)]; rfl, rfl⟩
          · go_wp2
            all_goals go_ret
            all_goals exact ⟨by rw [szOk_no (t := (n0 + tot S0 n0) + n1 + (n2 + tot S2 n2)) (by omega)]; rfl, rfl⟩
        · go_wp2
          all_goals go_ret
          all_goals exact ⟨by rw [szOk_no (t := (n0 + tot S0 n0) + n1 + (n2 + tot S2 n2)) (by omega)]; rfl, rfl⟩
  · go_wp2
    all_goals go_ret
    all_goals exact ⟨by rw [szOk_no (t := (n0 + tot S0 n0) + n1 + (n2 + tot S2 n2)) (by omega)]; rfl, rfl⟩
end Go.Proofs.YtobpghjknciobaeFmt.Sz
