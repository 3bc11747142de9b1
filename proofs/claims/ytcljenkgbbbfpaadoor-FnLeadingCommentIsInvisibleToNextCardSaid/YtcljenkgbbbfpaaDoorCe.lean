/-
  Plain mathematics of the law on consumeEscape: the escape that a text opens with, cut off behind itself, is decoded to the same rune. No program in sight.
-/
import Derived.Test.YtcljenkgbbbfpaaDoorDf
namespace Go.Proofs.YtcljenkgbbbfpaaDoor.Ce
open Go.PlainAid Str De Df
set_option linter.unusedVariables false
theorem cut_size (s : ByteArray) (e : Nat) (he : e ≤ s.size) : (s.extract 0 e).size = e := by rw [size_extract]; omega
theorem cut_bt (s : ByteArray) (e i : Nat) (hi : i < e) : bt (s.extract 0 e) i = bt s i := by rw [bt_extract _ _ _ _ (by omega), Nat.zero_add]
theorem cut_asc {s : ByteArray} {e i : Nat} (he : e ≤ s.size) (hi : i < e) (ha : bt s i < 128) : rc (s.extract 0 e) i = rc s i ∧ rw' (s.extract 0 e) i = rw' s i := by
  have a := rd_asc (s := s) (i := i) (by omega) ha
  have b := rd_asc (s := s.extract 0 e) (i := i) (by rw [cut_size s e he]; exact hi) (by rw [cut_bt s e i hi]; exact ha)
  rw [a.1, a.2, b.1, b.2, cut_bt s e i hi]; exact ⟨rfl, rfl⟩
theorem get_bang (s : ByteArray) (j : Nat) : (s.get! j).toNat = (bt s j).toNat := by
  by_cases h : j < s.size
  · rw [bt_get s j h]
    have : s.get! j = s[j]'h := by
      show s.data[j]! = _
      rw [getElem!_pos s.data j (by simpa using h)]
      rfl
    rw [this]; omega
  · rw [bt_end s (by omega)]
    have : s.get! j = 0 := by
      show s.data[j]! = _
      rw [getElem!_neg s.data j (by simpa using h)]
      rfl
    rw [this]; rfl
set_option maxHeartbeats 4000000 in
theorem decodeN_cut (n b0 b1 b2 b3 c1 c2 c3 : Nat) (h1 : 1 < (Lib.decodeN n b0 b1 b2 b3).2 → c1 = b1) (h2 : 2 < (Lib.decodeN n b0 b1 b2 b3).2 → c2 = b2) (h3 : 3 < (Lib.decodeN n b0 b1 b2 b3).2 → c3 = b3) :
    Lib.decodeN (Lib.decodeN n b0 b1 b2 b3).2 b0 c1 c2 c3 = Lib.decodeN n b0 b1 b2 b3 := by
  generalize hR : Lib.decodeN n b0 b1 b2 b3 = R at *
  unfold Lib.decodeN at hR
  by_cases k0 : b0 < 128
  · rw [if_pos k0] at hR
    subst hR
    unfold Lib.decodeN; rw [if_pos k0]
  rw [if_neg k0] at hR
  have bad : ∀ c1 c2 c3 : Nat, Lib.decodeN 1 b0 c1 c2 c3 = (65533, 1) := by
    intro c1 c2 c3
    unfold Lib.decodeN
    rw [if_neg k0, if_neg (by omega), if_neg (by omega), if_neg (by omega)]
  by_cases k1 : b0 / 32 = 6 ∧ 1 < n ∧ b1 / 64 = 2
  · rw [if_pos k1] at hR
    by_cases g : b0 % 32 * 64 + b1 % 64 ≥ 128
    · rw [if_pos g] at hR
      subst hR
      have e1 := h1 (by simp)
      subst e1
      unfold Lib.decodeN
      rw [if_neg k0, if_pos ⟨k1.1, by simp, k1.2.2⟩, if_pos g]
    · rw [if_neg g] at hR
      subst hR
      exact bad _ _ _
  rw [if_neg k1] at hR
  by_cases k2 : b0 / 16 = 14 ∧ (1 < n ∧ b1 / 64 = 2) ∧ 2 < n ∧ b2 / 64 = 2
  · rw [if_pos k2] at hR
    split at hR
    · rename_i g
      subst hR
      have e1 := h1 (by simp)
      have e2 := h2 (by simp)
      subst e1 e2
      unfold Lib.decodeN
      rw [if_neg k0, if_neg (by omega), if_pos ⟨k2.1, ⟨by simp, k2.2.1.2⟩, by simp, k2.2.2.2⟩, if_pos g]
    · subst hR
      exact bad _ _ _
  rw [if_neg k2] at hR
  by_cases k3 : b0 / 8 = 30 ∧ (1 < n ∧ b1 / 64 = 2) ∧ (2 < n ∧ b2 / 64 = 2) ∧ 3 < n ∧ b3 / 64 = 2
  · rw [if_pos k3] at hR
    split at hR
    · rename_i g
      subst hR
      have e1 := h1 (by simp)
      have e2 := h2 (by simp)
      have e3 := h3 (by simp)
      subst e1 e2 e3
      unfold Lib.decodeN
      rw [if_neg k0, if_neg (by omega), if_neg (by omega), if_pos ⟨k3.1, ⟨by simp, k3.2.1.2⟩, ⟨by simp, k3.2.2.1.2⟩, by simp, k3.2.2.2.2⟩, if_pos g]
    · subst hR
      exact bad _ _ _
  rw [if_neg k3] at hR
  subst hR
  exact bad _ _ _
theorem cut_rd {s : ByteArray} {i : Nat} (hi : i < s.size) : rc (s.extract 0 (i + rw' s i)) i = rc s i ∧ rw' (s.extract 0 (i + rw' s i)) i = rw' s i := by
  have hb := rd_bounds s i (by omega)
  have hp := rw_pos hi
  have hs := cut_size s (i + rw' s i) hb.2.2
  have e : rd (s.extract 0 (i + rw' s i)) i = rd s i := by
    rw [rd_at (by rw [hs]; omega), rd_at hi, Lib.decode_at, Lib.decode_at, hs, Nat.add_sub_cancel_left]
    have hw : rw' s i = (Lib.decodeN (s.size - i) (s.get! i).toNat (s.get! (i + 1)).toNat (s.get! (i + 2)).toNat (s.get! (i + 3)).toNat).2 := by
      unfold rw'; rw [rd_at hi, Lib.decode_at]
    have c0 : ((s.extract 0 (i + rw' s i)).get! i).toNat = (s.get! i).toNat := by rw [get_bang, get_bang, cut_bt _ _ _ (by omega)]
    have c1 : 1 < rw' s i → ((s.extract 0 (i + rw' s i)).get! (i + 1)).toNat = (s.get! (i + 1)).toNat := fun h => by rw [get_bang, get_bang, cut_bt _ _ _ (by omega)]
    have c2 : 2 < rw' s i → ((s.extract 0 (i + rw' s i)).get! (i + 2)).toNat = (s.get! (i + 2)).toNat := fun h => by rw [get_bang, get_bang, cut_bt _ _ _ (by omega)]
    have c3 : 3 < rw' s i → ((s.extract 0 (i + rw' s i)).get! (i + 3)).toNat = (s.get! (i + 3)).toNat := fun h => by rw [get_bang, get_bang, cut_bt _ _ _ (by omega)]
    rw [c0]
    generalize ((s.extract 0 (i + rw' s i)).get! (i + 1)).toNat = x1 at *
    generalize ((s.extract 0 (i + rw' s i)).get! (i + 2)).toNat = x2 at *
    generalize ((s.extract 0 (i + rw' s i)).get! (i + 3)).toNat = x3 at *
    rw [hw] at c1 c2 c3 ⊢
    exact decodeN_cut _ _ _ _ _ _ _ _ c1 c2 c3
  exact ⟨congrArg (fun p : Nat × Nat => (p.1 : Int)) e, congrArg Prod.snd e⟩
theorem hexRun_cut {s : ByteArray} {e : Nat} (he : e ≤ s.size) : ∀ (n i : Nat) (h : Int), i ≤ s.size → (hexRun s n i h).1 ≤ e → hexRun (s.extract 0 e) n i h = hexRun s n i h
  | 0, i, h, _, _ => rfl
  | n + 1, i, h, hi, hle => by
    have hs := cut_size s e he
    by_cases c : i < s.size ∧ 0 ≤ hexV (rc s i)
    · have hx := (rc_hex c.1).1 c.2
      have ha := hexV_asc hx
      have hb := rd_bounds s i hi
      have hp := rw_pos c.1
      have e1 : hexRun s (n + 1) i h = hexRun s n (i + rw' s i) (h * 16 + hexV (rc s i)) := by
        conv => lhs; unfold hexRun
        rw [if_pos c]
      rw [e1] at hle ⊢
      have hl := (hexRun_le s n (i + rw' s i) (h * 16 + hexV (rc s i)) hb.2.2).1
      have hie : i < e := by omega
      obtain ⟨q1, q2⟩ := cut_asc he hie (by omega)
      conv => lhs; unfold hexRun
      rw [q1, q2, hs, if_pos ⟨hie, c.2⟩]
      exact hexRun_cut he n _ _ hb.2.2 hle
    · have e1 : hexRun s (n + 1) i h = (i, h) := by unfold hexRun; rw [if_neg c]
      rw [e1] at hle ⊢
      refine hexRun_stop fun hlt => ?_
      rw [hs] at hlt
      rw [cut_bt s e i hlt]
      have : ¬ 0 ≤ hexV (bt s i) := fun h0 => c ⟨by omega, (rc_hex (by omega)).2 h0⟩
      omega
theorem hexRun_far {s : ByteArray} : ∀ (n i : Nat) (h : Int), (hexRun s n i h).1 ≤ i + n
  | 0, i, h => by simp [hexRun]
  | n + 1, i, h => by
    unfold hexRun
    split
    · rename_i c
      have hx := (rc_hex c.1).1 c.2
      have ha := hexV_asc hx
      have := hexRun_far (s := s) n (i + rw' s i) (h * 16 + hexV (rc s i))
      rw [(rd_asc c.1 (by omega)).2] at this ⊢
      omega
    · simp only []; omega
theorem ws_asc {s : ByteArray} {i : Nat} (h : i < s.size) (hw : wsB (rc s i) = true) : bt s i < 128 ∧ rw' s i = 1 := by
  by_cases ha : bt s i < 128
  · exact ⟨ha, (rd_asc h ha).2⟩
  · have := (rd_high h (by omega)).1
    unfold wsB at hw
    simp at hw
    omega
theorem skip_def (t : ByteArray) (q : Nat) : skipWs t q = if q < t.size ∧ wsB (rc t q) = true then q + rw' t q else q := rfl
theorem step_def (s : ByteArray) (i : Nat) : stepD s i = if rc s i = 92 then
    (if i + rw' s i < s.size then
      (if 0 ≤ hexV (rc s (i + rw' s i)) then
        (skipWs s (hexRun s 5 (i + rw' s i + rw' s (i + rw' s i)) (hexV (rc s (i + rw' s i)))).1, fixR (hexRun s 5 (i + rw' s i + rw' s (i + rw' s i)) (hexV (rc s (i + rw' s i)))).2)
      else (i + rw' s i + rw' s (i + rw' s i), rc s (i + rw' s i)))
    else (i + rw' s i, 65533))
  else (i + rw' s i, if rc s i = 0 then 65533 else rc s i) := rfl
theorem skip_cut {s : ByteArray} {q : Nat} (hq : q ≤ s.size) : skipWs (s.extract 0 (skipWs s q)) q = skipWs s q ∧ skipWs s q ≤ q + 1 := by
  have hle := skipWs_le s q hq
  have hs := cut_size s (skipWs s q) hle.2
  by_cases c : q < s.size ∧ wsB (rc s q) = true
  · obtain ⟨a, b⟩ := ws_asc c.1 c.2
    have e : skipWs s q = q + 1 := by unfold skipWs; rw [if_pos c, b]
    obtain ⟨q1, q2⟩ := cut_asc hle.2 (i := q) (by omega) a
    refine ⟨?_, by omega⟩
    rw [skip_def (s.extract 0 (skipWs s q)) q, q1, q2, hs, if_pos ⟨by omega, c.2⟩, b, e]
  · have e : skipWs s q = q := by unfold skipWs; rw [if_neg c]
    refine ⟨?_, by omega⟩
    rw [skip_def (s.extract 0 (skipWs s q)) q, if_neg (by rw [hs, e]; omega), e]
theorem rw_le4 (s : ByteArray) (i : Nat) : rw' s i ≤ 4 := by
  unfold rw'
  by_cases h : i < s.size
  · rw [rd_at h, Lib.decode_at]
    unfold Lib.decodeN
    repeat' split
    all_goals (simp only []; omega)
  · rw [rd_end (by omega)]; omega
/-- The escape at the text's head, cut off behind itself. -/
theorem cut_step {s : ByteArray} (h : 0 < s.size) (h92 : bt s 0 = 92) :
    stepD (s.extract 0 (stepD s 0).1) 0 = stepD s 0 ∧ 1 ≤ (stepD s 0).1 ∧ (stepD s 0).1 ≤ 8 ∧ (stepD s 0).1 ≤ s.size ∧ (2 ≤ s.size → 2 ≤ (stepD s 0).1) := by
  have hle := stepD_le h
  have hs := cut_size s _ hle.2
  obtain ⟨a1, a2⟩ := rd_asc h (by omega)
  obtain ⟨q1, q2⟩ := cut_asc hle.2 (i := 0) (by omega) (by omega)
  rw [h92] at a1
  have hst : stepD s 0 = if 1 < s.size then (if 0 ≤ hexV (rc s 1) then (skipWs s (hexRun s 5 (1 + rw' s 1) (hexV (rc s 1))).1, fixR (hexRun s 5 (1 + rw' s 1) (hexV (rc s 1))).2) else (1 + rw' s 1, rc s 1)) else (1, 65533) := by
    unfold stepD; rw [a1, a2, if_pos rfl, Nat.zero_add]
  have hct : ∀ e, e = (stepD s 0).1 → stepD (s.extract 0 e) 0 = if 1 < e then (if 0 ≤ hexV (rc (s.extract 0 e) 1) then (skipWs (s.extract 0 e) (hexRun (s.extract 0 e) 5 (1 + rw' (s.extract 0 e) 1) (hexV (rc (s.extract 0 e) 1))).1, fixR (hexRun (s.extract 0 e) 5 (1 + rw' (s.extract 0 e) 1) (hexV (rc (s.extract 0 e) 1))).2) else (1 + rw' (s.extract 0 e) 1, rc (s.extract 0 e) 1)) else (1, 65533) := by
    rintro e rfl
    rw [step_def (s.extract 0 (stepD s 0).1) 0, q1, q2, a1, a2, if_pos rfl, Nat.zero_add, hs]
  by_cases g1 : 1 < s.size
  · rw [if_pos g1] at hst
    have hb1 := rd_bounds s 1 (by omega)
    have hp1 := rw_pos g1
    by_cases g2 : 0 ≤ hexV (rc s 1)
    · rw [if_pos g2] at hst
      have hx := (rc_hex g1).1 g2
      have ha := hexV_asc hx
      have w1 := (rd_asc g1 (by omega)).2
      have hrl := hexRun_le s 5 (1 + rw' s 1) (hexV (rc s 1)) hb1.2.2
      have hrf := hexRun_far (s := s) 5 (1 + rw' s 1) (hexV (rc s 1))
      have hk := skip_cut hrl.2
      have hk2 := skipWs_le s _ hrl.2
      have e1 : (stepD s 0).1 = skipWs s (hexRun s 5 (1 + rw' s 1) (hexV (rc s 1))).1 := by rw [hst]
      obtain ⟨r1, r2⟩ := cut_asc hle.2 (i := 1) (by omega) (by omega)
      refine ⟨?_, by omega, by omega, hle.2, fun _ => by omega⟩
      rw [hct _ rfl, if_pos (by omega), r1, r2, if_pos g2, hexRun_cut hle.2 5 _ _ hb1.2.2 (by omega), hst]
      simp only []
      rw [hk.1]
    · rw [if_neg g2] at hst
      have e1 : (stepD s 0).1 = 1 + rw' s 1 := by rw [hst]
      have w4 := rw_le4 s 1
      refine ⟨?_, by omega, by omega, hle.2, fun _ => by omega⟩
      rw [hct _ rfl, if_pos (by omega), e1]
      obtain ⟨r1, r2⟩ := cut_rd g1
      rw [r1, r2, if_neg g2, hst]
  · rw [if_neg g1] at hst
    have e1 : (stepD s 0).1 = 1 := by rw [hst]
    refine ⟨?_, by omega, by omega, hle.2, fun _ => by omega⟩
    rw [hct _ rfl, if_neg (by omega), hst]
theorem hexRun_digits {s : ByteArray} : ∀ (n i : Nat) (h : Int) (j : Nat), i ≤ j → j < (hexRun s n i h).1 → 0 ≤ hexV (bt s j)
  | 0, i, h, j, h1, h2 => by simp [hexRun] at h2; omega
  | n + 1, i, h, j, h1, h2 => by
    unfold hexRun at h2
    split at h2
    · rename_i c
      have hx := (rc_hex c.1).1 c.2
      have ha := hexV_asc hx
      rw [(rd_asc c.1 (by omega)).2] at h2
      by_cases e : j = i
      · subst e; exact hx
      · exact hexRun_digits n (i + 1) _ j (by omega) h2
    · simp only [] at h2; omega
theorem conts (n b0 b1 b2 b3 : Nat) : (1 < (Lib.decodeN n b0 b1 b2 b3).2 → 128 ≤ b0 ∧ 128 ≤ b1) ∧ (2 < (Lib.decodeN n b0 b1 b2 b3).2 → 128 ≤ b2) ∧ (3 < (Lib.decodeN n b0 b1 b2 b3).2 → 128 ≤ b3) := by
  unfold Lib.decodeN
  repeat' split
  all_goals (refine ⟨fun h => ?_, fun h => ?_, fun h => ?_⟩ <;> simp only [] at h <;> omega)
theorem no92 {s : ByteArray} (h : 0 < s.size) (h92 : bt s 0 = 92) : ∀ i, 1 ≤ i → i + 1 < (stepD s 0).1 → bt s i ≠ 92 := by
  intro i h1 h2 hi
  obtain ⟨a1, a2⟩ := rd_asc h (by omega)
  rw [h92] at a1
  have hle := stepD_le h
  rw [step_def, a1, a2, if_pos rfl, Nat.zero_add] at h2 hle
  by_cases g1 : 1 < s.size
  · rw [if_pos g1] at h2 hle
    by_cases g2 : 0 ≤ hexV (rc s 1)
    · rw [if_pos g2] at h2 hle
      have hx := (rc_hex g1).1 g2
      have ha := hexV_asc hx
      have hb1 := rd_bounds s 1 (by omega)
      have hrl := hexRun_le s 5 (1 + rw' s 1) (hexV (rc s 1)) hb1.2.2
      have hk := (skip_cut hrl.2).2
      simp only [] at h2
      have hw := (rd_asc g1 (by omega)).2
      by_cases e : i = 1
      · subst e; rw [hi] at hx; exact absurd hx (by decide)
      · have := hexRun_digits (s := s) 5 (1 + rw' s 1) (hexV (rc s 1)) i (by omega) (by omega)
        rw [hi] at this
        exact absurd this (by decide)
    · rw [if_neg g2] at h2 hle
      simp only [] at h2
      have hw : rw' s 1 = (Lib.decodeN (s.size - 1) (s.get! 1).toNat (s.get! 2).toNat (s.get! 3).toNat (s.get! 4).toNat).2 := by
        unfold rw'; rw [rd_at g1, Lib.decode_at]
      have hc := conts (s.size - 1) (s.get! 1).toNat (s.get! 2).toNat (s.get! 3).toNat (s.get! 4).toNat
      rw [← hw] at hc
      have w4 := rw_le4 s 1
      rw [get_bang, get_bang, get_bang, get_bang] at hc
      obtain rfl | rfl | rfl : i = 1 ∨ i = 2 ∨ i = 3 := by omega
      · have := (hc.1 (by omega)).1; omega
      · have := (hc.1 (by omega)).2; omega
      · have := hc.2.1 (by omega); omega
  · rw [if_neg g1] at h2
    simp only [] at h2
    omega
theorem fix_valid (h : Int) (h0 : 0 ≤ h) : 0 ≤ fixR h ∧ fixR h ≤ 1114111 ∧ (fixR h < 55296 ∨ 57343 < fixR h) := by
  unfold fixR; split <;> omega
theorem rc_valid (s : ByteArray) (i : Nat) : 0 ≤ rc s i ∧ rc s i ≤ 1114111 ∧ (rc s i < 55296 ∨ 57343 < rc s i) := by
  unfold rc
  by_cases h : i < s.size
  · rw [rd_at h, Lib.decode_at]
    have v := Lib.decodeN_valid (s.size - i) (s.get! i).toNat (s.get! (i + 1)).toNat (s.get! (i + 2)).toNat (s.get! (i + 3)).toNat (UInt8.toNat_lt _)
    omega
  · rw [rd_end (by omega)]; decide
theorem step_valid {s : ByteArray} (i : Nat) : 0 ≤ (stepD s i).2 ∧ (stepD s i).2 ≤ 1114111 ∧ ((stepD s i).2 < 55296 ∨ 57343 < (stepD s i).2) := by
  have v1 := rc_valid s i
  have v2 := rc_valid s (i + rw' s i)
  rw [step_def]
  by_cases c1 : rc s i = 92
  · rw [if_pos c1]
    by_cases c2 : i + rw' s i < s.size
    · rw [if_pos c2]
      by_cases c3 : 0 ≤ hexV (rc s (i + rw' s i))
      · rw [if_pos c3]
        exact fix_valid _ (hexRun_num s 5 _ _ c3).1
      · rw [if_neg c3]; exact v2
    · rw [if_neg c2]
      exact (show (0 : Int) ≤ 65533 ∧ (65533 : Int) ≤ 1114111 ∧ ((65533 : Int) < 55296 ∨ (57343 : Int) < 65533) by decide)
  · rw [if_neg c1]
    by_cases c2 : rc s i = 0
    · rw [if_pos c2]; exact (show (0 : Int) ≤ 65533 ∧ (65533 : Int) ≤ 1114111 ∧ ((65533 : Int) < 55296 ∨ (57343 : Int) < 65533) by decide)
    · rw [if_neg c2]; exact v1
/-- The decoder gives the escape's rune back. -/
theorem decoded {s : ByteArray} (h : 0 < s.size) (h92 : bt s 0 = 92) : D (s.extract 0 (stepD s 0).1) 0 = Lib.encodeRuneZ (stepD s 0).2 := by
  obtain ⟨c1, c2, c3, c4, c5⟩ := cut_step h h92
  have hs := cut_size s _ c4
  rw [D_step (by rw [hs]; omega), c1, D_end (by rw [hs]; exact Nat.le_refl _), List.append_nil]
end Go.Proofs.YtcljenkgbbbfpaaDoor.Ce
