/-
  Plain mathematics of decodeEscapesInToken: what one round of its loop reads and writes, and what it writes in all. No condition; no program in sight.
-/
import Derived.WalkKit
import Derived.PlainAid
import Derived.Lib.Strings
import Derived.Lib.DecodeN
import Derived.Lib.QuoteLoop
import Derived.Lib.RuneCountTail
import Derived.Lib.RuneBytes
import Derived.Shelf.Unicode.DecodeSlow
import Derived.Laws.RangeAny
import Derived.Laws.RangeString
import Derived.Test.YtcljenkgbbbfpaaDoorStr
namespace Go.Proofs.YtcljenkgbbbfpaaDoor.De
open Go.PlainAid Str
set_option linter.unusedVariables false
/-- The rune at i and its width; at the end U+FFFD of width 0. -/
def rd (s : ByteArray) (i : Nat) : Nat × Nat := Lib.decodeGo (s.extract i s.size)
def rc (s : ByteArray) (i : Nat) : Int := ((rd s i).1 : Int)
def rw' (s : ByteArray) (i : Nat) : Nat := (rd s i).2
theorem rd_end {s : ByteArray} {i : Nat} (h : s.size ≤ i) : rd s i = (65533, 0) := by
  unfold rd Lib.decodeGo; rw [if_pos (by rw [size_extract]; omega)]
theorem rd_at {s : ByteArray} {i : Nat} (h : i < s.size) : rd s i = Utf8.decode s i := by
  unfold rd Lib.decodeGo; rw [if_neg (by rw [size_extract]; omega), Lib.tail_decode, Nat.add_zero]
theorem rd_asc {s : ByteArray} {i : Nat} (h : i < s.size) (ha : bt s i < 128) : rc s i = bt s i ∧ rw' s i = 1 := by
  have hb := bt_get s i h
  have g := bt_nonneg s i
  unfold rc rw'
  rw [rd_at h, decode_ascii s i h (by omega)]
  exact ⟨hb.symm, rfl⟩
theorem rd_high {s : ByteArray} {i : Nat} (h : i < s.size) (ha : 128 ≤ bt s i) : 128 ≤ rc s i ∧ 1 ≤ rw' s i := by
  have hb := bt_get s i h
  unfold rc rw'
  rw [rd_at h]
  have := decode_high s i h (by omega)
  omega
theorem rd_bounds (s : ByteArray) (i : Nat) (hi : i ≤ s.size) : 0 ≤ rc s i ∧ rc s i ≤ 1114111 ∧ i + rw' s i ≤ s.size := by
  have hr : (rd s i).1 ≤ 1114111 ∧ (rd s i).2 ≤ s.size - i := by
    by_cases h : i < s.size
    · rw [rd_at h]
      have e := Lib.decode_at s i
      have v := Lib.decodeN_valid (s.size - i) (s.get! i).toNat (s.get! (i + 1)).toNat (s.get! (i + 2)).toNat (s.get! (i + 3)).toNat (UInt8.toNat_lt _)
      have wl := Lib.decodeN_width_le (s.size - i) (s.get! i).toNat (s.get! (i + 1)).toNat (s.get! (i + 2)).toNat (s.get! (i + 3)).toNat (by omega)
      rw [e]
      exact ⟨by omega, wl⟩
    · rw [rd_end (by omega)]; exact ⟨by decide, Nat.zero_le _⟩
  unfold rc rw'
  omega
theorem rw_pos {s : ByteArray} {i : Nat} (h : i < s.size) : 1 ≤ rw' s i := by
  by_cases ha : bt s i < 128
  · rw [(rd_asc h ha).2]; omega
  · exact (rd_high h (by omega)).2
/-- The digit's value, or -1. -/
def hexV (c : Int) : Int := if 48 ≤ c ∧ c ≤ 57 then c - 48 else if 97 ≤ c ∧ c ≤ 102 then c - 87 else if 65 ≤ c ∧ c ≤ 70 then c - 55 else -1
def hexB (c : Int) : Bool := decide (0 ≤ hexV c)
theorem hexV_range (c : Int) : -1 ≤ hexV c ∧ hexV c ≤ 15 := by unfold hexV; repeat' split <;> omega
theorem hexV_asc {c : Int} (h : 0 ≤ hexV c) : 48 ≤ c ∧ c ≤ 102 := by unfold hexV at h; repeat' split at h <;> omega
/-- At most n digits more. -/
def hexRun (s : ByteArray) : Nat → Nat → Int → Nat × Int
  | 0, i, h => (i, h)
  | n + 1, i, h => if i < s.size ∧ 0 ≤ hexV (rc s i) then hexRun s n (i + rw' s i) (h * 16 + hexV (rc s i)) else (i, h)
def wsB (c : Int) : Bool := c == 32 || c == 9 || c == 10 || c == 13 || c == 12
/-- Behind the digits one white space is eaten. -/
def skipWs (s : ByteArray) (i : Nat) : Nat := if i < s.size ∧ wsB (rc s i) = true then i + rw' s i else i
def fixR (h : Int) : Int := if h = 0 ∨ (55296 ≤ h ∧ h ≤ 57343) ∨ 1114111 < h then 65533 else h
/-- One round at i (i before the end; no newline behind a backslash): where it goes on, and the rune that it writes. -/
def stepD (s : ByteArray) (i : Nat) : Nat × Int :=
  if rc s i = 92 then
    (if i + rw' s i < s.size then
      (if 0 ≤ hexV (rc s (i + rw' s i)) then
        (skipWs s (hexRun s 5 (i + rw' s i + rw' s (i + rw' s i)) (hexV (rc s (i + rw' s i)))).1, fixR (hexRun s 5 (i + rw' s i + rw' s (i + rw' s i)) (hexV (rc s (i + rw' s i)))).2)
      else (i + rw' s i + rw' s (i + rw' s i), rc s (i + rw' s i)))
    else (i + rw' s i, 65533))
  else (i + rw' s i, if rc s i = 0 then 65533 else rc s i)
theorem hexRun_le (s : ByteArray) : ∀ (n i : Nat) (h : Int), i ≤ s.size → i ≤ (hexRun s n i h).1 ∧ (hexRun s n i h).1 ≤ s.size
  | 0, i, h, hi => ⟨Nat.le_refl _, hi⟩
  | n + 1, i, h, hi => by
    unfold hexRun
    split
    · have hb := rd_bounds s i hi
      have := hexRun_le s n (i + rw' s i) (h * 16 + hexV (rc s i)) hb.2.2
      omega
    · exact ⟨Nat.le_refl _, hi⟩
theorem hexRun_num (s : ByteArray) : ∀ (n i : Nat) (h : Int), 0 ≤ h → 0 ≤ (hexRun s n i h).2 ∧ (hexRun s n i h).2 ≤ (h + 1) * 16 ^ n - 1
  | 0, i, h, h0 => by simp only [hexRun]; omega
  | n + 1, i, h, h0 => by
    unfold hexRun
    have hr := hexV_range (rc s i)
    split
    · rename_i hc
      have ih := hexRun_num s n (i + rw' s i) (h * 16 + hexV (rc s i)) (by omega)
      refine ⟨ih.1, Int.le_trans ih.2 ?_⟩
      have : (h * 16 + hexV (rc s i) + 1) * 16 ^ n ≤ ((h + 1) * 16) * 16 ^ n := Int.mul_le_mul_of_nonneg_right (by omega) (Int.le_of_lt (Int.pow_pos (by omega)))
      rw [Int.pow_succ]
      have e : (h + 1) * 16 * 16 ^ n = (h + 1) * (16 ^ n * 16) := by rw [Int.mul_assoc, Int.mul_comm 16 (16 ^ n)]
      omega
    · refine ⟨h0, ?_⟩
      have h1 : (1 : Int) ≤ 16 ^ (n + 1) := by
        have := Int.pow_pos (n := 16) (m := n + 1) (by omega)
        omega
      have : (h + 1) * 1 ≤ (h + 1) * 16 ^ (n + 1) := Int.mul_le_mul_of_nonneg_left h1 (by omega)
      simp only []
      omega
theorem skipWs_le (s : ByteArray) (i : Nat) (hi : i ≤ s.size) : i ≤ skipWs s i ∧ skipWs s i ≤ s.size := by
  have := rd_bounds s i hi
  unfold skipWs; split <;> omega
theorem stepD_le {s : ByteArray} {i : Nat} (h : i < s.size) : i < (stepD s i).1 ∧ (stepD s i).1 ≤ s.size := by
  have hp := rw_pos h
  have hb := rd_bounds s i (by omega)
  have hb2 := rd_bounds s (i + rw' s i) hb.2.2
  unfold stepD
  split
  · split
    · rename_i h2
      have hp2 := rw_pos h2
      split
      · have a := hexRun_le s 5 (i + rw' s i + rw' s (i + rw' s i)) (hexV (rc s (i + rw' s i))) hb2.2.2
        have b := skipWs_le s _ a.2
        simp only []
        omega
      · simp only []; omega
    · simp only []; omega
  · simp only []; omega
def decD (s : ByteArray) : Nat → Nat → List Int
  | 0, _ => []
  | f + 1, i => if i < s.size then Lib.encodeRuneZ (stepD s i).2 ++ decD s f (stepD s i).1 else []
theorem decD_fuel (s : ByteArray) : ∀ (f g i : Nat), s.size - i ≤ f → s.size - i ≤ g → decD s f i = decD s g i
  | 0, 0, i, _, _ => rfl
  | 0, g + 1, i, h, _ => by unfold decD; rw [if_neg (by omega)]
  | f + 1, 0, i, _, h => by unfold decD; rw [if_neg (by omega)]
  | f + 1, g + 1, i, h1, h2 => by
    unfold decD
    split
    · rename_i h
      have := stepD_le h
      rw [decD_fuel s f g (stepD s i).1 (by omega) (by omega)]
    · rfl
/-- What is written from i on. -/
def D (s : ByteArray) (i : Nat) : List Int := decD s s.size i
theorem D_end {s : ByteArray} {i : Nat} (h : s.size ≤ i) : D s i = [] := by
  unfold D
  cases hs : s.size with
  | zero => rfl
  | succ n => unfold decD; rw [if_neg (by omega)]
theorem D_step {s : ByteArray} {i : Nat} (h : i < s.size) : D s i = Lib.encodeRuneZ (stepD s i).2 ++ D s (stepD s i).1 := by
  unfold D
  have hl := stepD_le h
  cases hs : s.size with
  | zero => omega
  | succ n =>
    rw [decD, if_pos (by omega), decD_fuel s n (n + 1) (stepD s i).1 (by omega) (by omega)]
theorem enc_len (r : Int) : 1 ≤ (Lib.encodeRuneZ r).length ∧ (Lib.encodeRuneZ r).length ≤ 4 := by
  unfold Lib.encodeRuneZ
  repeat' split
  all_goals simp
theorem D_len (s : ByteArray) : ∀ (f i : Nat), (decD s f i).length ≤ 4 * (s.size - i)
  | 0, i => by simp [decD]
  | f + 1, i => by
    unfold decD
    split
    · rename_i h
      have hl := stepD_le h
      have := D_len s f (stepD s i).1
      have he := enc_len (stepD s i).2
      rw [List.length_append]; omega
    · simp
end Go.Proofs.YtcljenkgbbbfpaaDoor.De
