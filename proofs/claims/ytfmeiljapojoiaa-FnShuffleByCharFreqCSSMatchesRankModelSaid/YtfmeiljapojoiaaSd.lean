/-
  Proved: heapSort and reverseRange on entries of three cells do what the plain functions do. Conditions: those that each theorem names as its
  hypotheses, and no others.
-/
import Derived.Test.YtfmeiljapojoiaaSc
namespace Go.Proofs.Ytfmeiljapojoiaa.Sd
open Go.RowKit Mem Rws Sa Sc
set_option linter.unusedVariables false
set_option linter.unusedSimpArgs false
set_option maxRecDepth 100000 in
set_option maxHeartbeats 16000000 in
theorem heap16 (g a b : Nat) (d : Array El) (w : World) (h : Rw g d w) (hab : a < b) (hb : b ≤ 64) :
    Calls Try.prog 16 #[IV g, .int .i64 a, .int .i64 b] w (To g (Sort.heapSort Sa.lt d a b) w) := by
  have H := Lib.hid h
  clear h
  obtain ⟨L, hL⟩ : ∃ L, L = b - a := ⟨_, rfl⟩
  obtain ⟨K, hK⟩ : ∃ K, K = (L - 1) / 2 + 1 := ⟨_, rfl⟩
  obtain ⟨B, hB⟩ : ∃ B, B = Sort.heapBuild Sa.lt L a K d := ⟨_, rfl⟩
  obtain ⟨G, hG⟩ : ∃ G, G = Sort.heapPop Sa.lt a L B := ⟨_, rfl⟩
  have hGG : Sort.heapSort Sa.lt d a b = G := by rw [hG, hB, hK, hL]; rfl
  rw [hGG]
  have HG := Lib.hid hG
  have HB := Lib.hid hB
  have E0 := Lib.hid (show (b : Int) - (a : Int) = (L : Int) by omega)
  have E1 := Lib.hid (show ((L : Int) - 1) / 2 = (K : Int) - 1 by omega)
  have hK9 : K ≤ 33 := by omega
  have hK2 : 1 ≤ K := by omega
  have hLa : L + a ≤ 64 := by omega
  have hL1 : 1 ≤ L := by omega
  have l0 : (0 : Int) ≤ (L : Int) := by omega
  have l1 : (L : Int) ≤ 64 := by omega
  clear hG hB hK hL hGG hab
  go_enter Try.func16, Try.ntmps16
  go_upto_region 3 with fail
  rw [E0.out]
  go_wp2_with fail
  rw [E1.out]
  go_loopw [9] (fun v9 wr => ∃ (k : Nat) (dk : Array El), v9 = .int .i64 ((k : Int) - 1) ∧ Hid (k ≤ K ∧ Rw g dk wr ∧ Fr g w wr ∧ B = Sort.heapBuild Sa.lt L a k dk)) (fun v9 _ => (intOf v9 + 1).toNat)
  case atStart => exact ⟨K, d, rfl, Lib.hid ⟨Nat.le_refl _, H.out, Fr.refl g w, HB.out⟩⟩
  case round =>
    clear H HB
    obtain ⟨k, dk, rfl, HI⟩ := hrel
    obtain ⟨wo, rfl⟩ : ∃ x : World, x = wr := ⟨_, rfl⟩
    have hk9 := HI.out.1
    cases k with
    | zero =>
      have e0 : (((0 : Nat) : Int) - 1) = -1 := by decide
      rw [e0]
      clear e0
      go_wp2_with fail
      go_loopw [10] (fun v10 wq => ∃ (k : Nat) (dk : Array El), v10 = .int .i64 ((k : Int) - 1) ∧ Hid (k ≤ L ∧ Rw g dk wq ∧ Fr g w wq ∧ G = Sort.heapPop Sa.lt a k dk)) (fun v10 _ => (intOf v10 + 1).toNat)
      case atStart => exact ⟨L, dk, rfl, Lib.hid ⟨Nat.le_refl _, HI.out.2.1, HI.out.2.2.1, by rw [HG.out, HI.out.2.2.2]; rfl⟩⟩
      case round =>
        clear HI HG
        obtain ⟨m, dm, rfl, HI⟩ := hrel
        obtain ⟨wp, rfl⟩ : ∃ x : World, x = wr := ⟨_, rfl⟩
        have hm9 := HI.out.1
        cases m with
        | zero =>
          have e0 : (((0 : Nat) : Int) - 1) = -1 := by decide
          rw [e0]
          clear e0
          go_wp2_with fail
          go_end0
          refine ⟨rfl, ?_, HI.out.2.2.1⟩
          rw [HI.out.2.2.2]
          exact HI.out.2.1
        | succ m =>
          have e0 : (((m + 1 : Nat) : Int) - 1) = (m : Int) := by omega
          rw [e0]
          have E2 := Lib.hid e0
          clear e0
          have t1 : decide ((0 : Int) ≤ (m : Int)) = true := decide_eq_true (by omega)
          have y0 : (0 : Int) ≤ (m : Int) := by omega
          have y1 : (m : Int) ≤ 64 := by omega
          have E3 := Lib.hid (show (a : Int) + (m : Int) = ((a + m : Nat) : Int) by omega)
          go_wp2_with fail
          rw [E3.out]
          refine (swapT g a (a + m) dm _ HI.out.2.1 (by omega) (by omega)).mono ?_
          rintro e w1 ⟨rfl, hr, hf⟩
          have HR := Lib.hid (And.intro hr (Fr.trans HI.out.2.2.1 hf))
          clear hr hf
          go_wp2_with fail
          refine (sd23 g 0 m a _ _ HR.out.1 (by omega) (by omega)).mono ?_
          rintro e w2 ⟨rfl, hr, hf⟩
          have HR2 := Lib.hid (And.intro hr (Fr.trans HR.out.2 hf))
          clear hr hf
          go_wp2_with fail
          go_roundw
          case rel => exact ⟨m, _, rfl, Lib.hid ⟨by omega, HR2.out.1, HR2.out.2, by rw [HI.out.2.2.2]; rfl⟩⟩
          case measure => simp [intOf] <;> omega
    | succ m =>
      have e0 : (((m + 1 : Nat) : Int) - 1) = (m : Int) := by omega
      rw [e0]
      have E2 := Lib.hid e0
      clear e0
      have t1 : decide ((0 : Int) ≤ (m : Int)) = true := decide_eq_true (by omega)
      have y0 : (0 : Int) ≤ (m : Int) := by omega
      have y1 : (m : Int) ≤ 64 := by omega
      go_wp2_with fail
      refine (sd23 g m L a _ _ HI.out.2.1 (by omega) (by omega)).mono ?_
      rintro e w2 ⟨rfl, hr, hf⟩
      have HR2 := Lib.hid (And.intro hr (Fr.trans HI.out.2.2.1 hf))
      clear hr hf
      go_wp2_with fail
      go_roundw
      case rel => exact ⟨m, _, rfl, Lib.hid ⟨by omega, HR2.out.1, HR2.out.2, by rw [HI.out.2.2.2]; rfl⟩⟩
      case measure => simp [intOf] <;> omega
set_option maxRecDepth 100000 in
set_option maxHeartbeats 16000000 in
theorem rev19 (g a b : Nat) (d : Array El) (w : World) (h : Rw g d w) (hab : a < b) (hb : b ≤ 64) :
    Calls Try.prog 19 #[IV g, .int .i64 a, .int .i64 b] w (To g (Sort.reverseRange d a b) w) := by
  have H := Lib.hid h
  clear h
  obtain ⟨J, hJ⟩ : ∃ J, J = b - 1 := ⟨_, rfl⟩
  obtain ⟨G, hG⟩ : ∃ G, G = Sort.reverseLoop a J d := ⟨_, rfl⟩
  have hGG : Sort.reverseRange d a b = G := by rw [hG, hJ]; rfl
  rw [hGG]
  have HG := Lib.hid hG
  have E0 := Lib.hid (show (b : Int) - 1 = (J : Int) by omega)
  have hJ9 : J ≤ 63 := by omega
  have ha9 : a ≤ 63 := by omega
  clear hG hGG hJ hab
  go_enter Try.func19, Try.ntmps19
  go_wp2_with fail
  rw [E0.out]
  go_loopw [6, 7] (fun v6 v7 wr => ∃ (i j : Nat) (dk : Array El), v6 = .int .i64 (i : Int) ∧ v7 = .int .i64 (j : Int) ∧ Hid ((i ≤ 64 ∧ j ≤ 63) ∧ Rw g dk wr ∧ Fr g w wr ∧ G = Sort.reverseLoop i j dk)) (fun _ v7 _ => (intOf v7).toNat)
  case atStart => exact ⟨a, J, d, rfl, rfl, Lib.hid ⟨⟨by omega, hJ9⟩, H.out, Fr.refl g w, HG.out⟩⟩
  case round =>
    clear H HG
    obtain ⟨i, j, dk, rfl, rfl, HI⟩ := hrel
    obtain ⟨wo, rfl⟩ : ∃ x : World, x = wr := ⟨_, rfl⟩
    have hi9 : i ≤ 64 ∧ j ≤ 63 := HI.out.1
    have y0 : (0 : Int) ≤ (i : Int) := by omega
    have y1 : (i : Int) ≤ 64 := by omega
    have z0 : (0 : Int) ≤ (j : Int) := by omega
    have z1 : (j : Int) ≤ 64 := by omega
    by_cases hlt : i < j
    · have t1 : decide ((i : Int) < (j : Int)) = true := decide_eq_true (by omega)
      have t1' : decide (i < j) = true := decide_eq_true hlt
      have HL := Lib.hid hlt
      clear hlt
      go_wp2_with fail
      refine (swapT g i j dk _ HI.out.2.1 (by have := HL.out; omega) (by omega)).mono ?_
      rintro e w1 ⟨rfl, hr, hf⟩
      have HR := Lib.hid (And.intro hr (Fr.trans HI.out.2.2.1 hf))
      clear hr hf
      go_wp2_with fail
      go_roundw
      case rel => exact ⟨i + 1, j - 1, Sort.swp dk i j, by go_num, vi (by have := HL.out; omega), Lib.hid ⟨by have := HL.out; omega, HR.out.1, HR.out.2, by rw [HI.out.2.2.2, Sort.reverseLoop, if_pos HL.out]⟩⟩
      case measure => have := HL.out; simp [intOf]; omega
    · have t1 : decide ((i : Int) < (j : Int)) = false := decide_eq_false (by omega)
      have t1' : decide (i < j) = false := decide_eq_false hlt
      have t3 : ¬ ((i : Int) < (j : Int)) := by omega
      have HL := Lib.hid hlt
      clear hlt
      go_wp2_with fail
      go_end0
      refine ⟨rfl, ?_, HI.out.2.2.1⟩
      rw [HI.out.2.2.2, Sort.reverseLoop, if_neg HL.out]
      exact HI.out.2.1
end Go.Proofs.Ytfmeiljapojoiaa.Sd
