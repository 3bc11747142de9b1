/-
  Contracts of the size guards of some laws. Conditions: sizes alone.
-/
import Derived.Test.YtmjfdhgfpgeboabRows
import Derived.Test.YtmjfdhgfpgeboabMem
import Derived.WalkKit
import Derived.Handy
import Derived.Lib.Hide
namespace Go.Proofs.Ytmjfdhgfpgeboab.Sz
open Go.RowKit Mem
set_option linter.unusedVariables false
/-- The sizes of the first n strings, added up. -/
def tot (S : Nat → ByteArray) : Nat → Nat
  | 0 => 0
  | n + 1 => tot S n + (S n).size
theorem tot0 (S : Nat → ByteArray) : tot S 0 = 0 := rfl
theorem totS (S : Nat → ByteArray) (n : Nat) : tot S (n + 1) = tot S n + (S n).size := rfl
theorem tot_mono (S : Nat → ByteArray) : ∀ {m n : Nat}, m ≤ n → tot S m ≤ tot S n
  | m, 0, h => by obtain rfl : m = 0 := by omega
                  exact Nat.le_refl _
  | m, n + 1, h => by
    rcases Nat.eq_or_lt_of_le h with rfl | h'
    · exact Nat.le_refl _
    · exact Nat.le_trans (tot_mono S (by omega : m ≤ n)) (by simp [tot])
theorem tot_at (S : Nat → ByteArray) {k n : Nat} (h : k < n) : tot S k + (S k).size ≤ tot S n := tot_mono S (m := k + 1) (by omega)
def szOk (t : Nat) : Bool := decide (t ≤ 1048576)
theorem szOk_yes {t : Nat} (h : t ≤ 1048576) : szOk t = true := by simp [szOk, h]
theorem szOk_no {t : Nat} (h : ¬ t ≤ 1048576) : szOk t = false := by simp only [szOk, decide_eq_false_iff_not]; exact h
theorem vi {k : IntKind} {a b : Int} (h : a = b) : Value.int k a = .int k b := by rw [h]
set_option maxRecDepth 100000 in
set_option maxHeartbeats 4000000 in
theorem bytes4 (i0 : Int) (A1 : Option Addr) (n1 c1 : Nat) (A2 : Option Addr) (n2 c2 : Nat) (A3 : Option Addr) (n3 c3 : Nat) (S3 : Nat → ByteArray) (A4 : Option Addr) (n4 c4 : Nat) (S4 : Nat → ByteArray) (A5 : Option Addr) (n5 c5 : Nat) (i6 : Int) (i7 : Int) (w : World) (hn1 : n1 ≤ maxLen) (hn2 : n2 ≤ maxLen) (hA3 : Rd w w.heap.size 1 A3 n3 (fun j => .string (S3 j))) (hn3 : n3 ≤ maxLen) (hS3 : ∀ j, j < n3 → (S3 j).size ≤ maxLen) (hA4 : Rd w w.heap.size 1 A4 n4 (fun j => .string (S4 j))) (hn4 : n4 ≤ maxLen) (hS4 : ∀ j, j < n4 → (S4 j).size ≤ maxLen) (hn5 : n5 ≤ maxLen) :
    Calls Try.prog 4 #[.int .u8 i0, .slice A1 n1 c1, .slice A2 n2 c2, .slice A3 n3 c3, .slice A4 n4 c4, .slice A5 n5 c5, .int .u8 i6, .int .u8 i7] w fun e w' => e = .returned (.bool (szOk (n1 + n2 + (n3 + tot S3 n3) + (n4 + tot S4 n4) + n5))) ∧ w = w' := by
  unfold maxLen at hn1 hn2 hn3 hn4 hn5
  have HA3 := Lib.hid hA3
  have HS3 := Lib.hid hS3
  have HA4 := Lib.hid hA4
  have HS4 := Lib.hid hS4
  clear hA3 hS3 hA4 hS4
  go_enter Try.func4, Try.ntmps4
  by_cases g0 : n1 ≤ 1048576
  · skip
    by_cases g1 : n1 + n2 ≤ 1048576
    · skip
      by_cases g2 : n1 + n2 + n3 ≤ 1048576
      · go_wp2
        go_loop [17, 18] (fun z i => ∃ k : Nat, k ≤ n3 ∧ i = .int .i64 k ∧ z = .int .i64 ((n1 + n2 + n3 + tot S3 k : Nat) : Int) ∧ n1 + n2 + n3 + tot S3 k ≤ 1048576) (fun _ i => n3 - (intOf i).toNat)
        case atStart => exact ⟨0, by omega, rfl, vi (by have := tot0 S3; omega), by have := tot0 S3; omega⟩
        case round =>
          obtain ⟨k3, hk3, rfl, rfl, hz3⟩ := hrel
          by_cases hlt : k3 < n3
          · obtain ⟨b, off, rfl, hb, hc⟩ := HA3.out (by omega)
            have hck := hc k3 (by omega)
            clear hc
            have hta := tot_at S3 hlt
            have hts := Lib.hid (totS S3 k3)
            by_cases gg : n1 + n2 + n3 + (tot S3 k3 + (S3 k3).size) ≤ 1048576
            · go_wp2
              go_round
              case rel => exact ⟨k3 + 1, by omega, by go_num, vi (by have := hts.out; omega), by have := hts.out; omega⟩
              case measure => simp [intOf]; omega
            · go_wp2
              all_goals go_ret
              all_goals exact ⟨by rw [szOk_no (t := n1 + n2 + (n3 + tot S3 n3) + (n4 + tot S4 n4) + n5) (by omega)]; rfl, rfl⟩
          · obtain rfl : n3 = k3 := by omega
            clear hlt
            by_cases g3 : n1 + n2 + n3 + tot S3 n3 + n4 ≤ 1048576
            · go_wp2
              go_loop [17, 19] (fun z i => ∃ k : Nat, k ≤ n4 ∧ i = .int .i64 k ∧ z = .int .i64 ((n1 + n2 + n3 + tot S3 n3 + n4 + tot S4 k : Nat) : Int) ∧ n1 + n2 + n3 + tot S3 n3 + n4 + tot S4 k ≤ 1048576) (fun _ i => n4 - (intOf i).toNat)
              case atStart => exact ⟨0, by omega, rfl, vi (by have := tot0 S4; omega), by have := tot0 S4; omega⟩
              case round =>
                obtain ⟨k4, hk4, rfl, rfl, hz4⟩ := hrel
                by_cases hlt : k4 < n4
                · obtain ⟨b, off, rfl, hb, hc⟩ := HA4.out (by omega)
                  have hck := hc k4 (by omega)
                  clear hc
                  have hta := tot_at S4 hlt
                  have hts := Lib.hid (totS S4 k4)
                  by_cases gg : n1 + n2 + n3 + tot S3 n3 + n4 + (tot S4 k4 + (S4 k4).size) ≤ 1048576
                  · go_wp2
                    go_round
                    case rel => exact ⟨k4 + 1, by omega, by go_num, vi (by have := hts.out; omega), by have := hts.out; omega⟩
                    case measure => simp [intOf]; omega
                  · go_wp2
                    all_goals go_ret
                    all_goals exact ⟨by rw [szOk_no (t := n1 + n2 + (n3 + tot S3 n3) + (n4 + tot S4 n4) + n5) (by omega)]; rfl, rfl⟩
                · obtain rfl : n4 = k4 := by omega
                  clear hlt
                  by_cases g4 : n1 + n2 + n3 + tot S3 n3 + n4 + tot S4 n4 + n5 ≤ 1048576
                  · skip
                    go_wp2
                    go_ret
                    exact ⟨by rw [szOk_yes (t := n1 + n2 + (n3 + tot S3 n3) + (n4 + tot S4 n4) + n5) (by omega)]; rfl, rfl⟩
                  · go_wp2
                    all_goals go_ret
                    all_goals exact ⟨by rw [szOk_no (t := n1 + n2 + (n3 + tot S3 n3) + (n4 + tot S4 n4) + n5) (by omega)]; rfl, rfl⟩
            · go_wp2
              all_goals go_ret
              all_goals exact ⟨by rw [szOk_no (t := n1 + n2 + (n3 + tot S3 n3) + (n4 + tot S4 n4) + n5) (by omega)]; rfl, rfl⟩
      · go_wp2
        all_goals go_ret
        all_goals exact ⟨by rw [szOk_no (t := n1 + n2 + (n3 + tot S3 n3) + (n4 + tot S4 n4) + n5) (by omega)]; rfl, rfl⟩
    · go_wp2
      all_goals go_ret
      all_goals exact ⟨by rw [szOk_no (t := n1 + n2 + (n3 + tot S3 n3) + (n4 + tot S4 n4) + n5) (by omega)]; rfl, rfl⟩
  · go_wp2
    all_goals go_ret
    all_goals exact ⟨by rw [szOk_no (t := n1 + n2 + (n3 + tot S3 n3) + (n4 + tot S4 n4) + n5) (by omega)]; rfl, rfl⟩
end Go.Proofs.Ytmjfdhgfpgeboab.Sz
