/-
  Proved: partialInsertionSort on entries of three cells does what the plain function does. Conditions: those that each theorem names as its
  hypotheses, and no others.
-/
import Derived.Test.YtfmeiljapojoiaaSf
import Derived.Sort.WalkA6
import Derived.Deep.CutBlock
namespace Go.Proofs.Ytfmeiljapojoiaa.Sg
open Go.RowKit Mem Rws Sa Sc
set_option linter.unusedVariables false
set_option linter.unusedSimpArgs false
def ToB (g : Nat) (b : Bool) (d' : Array El) (w : World) (e : Ending) (w' : World) : Prop := e = .returned (.bool b) ∧ Rw g d' w' ∧ Fr g w w'
set_option maxRecDepth 100000 in
set_option maxHeartbeats 32000000 in
theorem pins20 (g a b : Nat) (d : Array El) (w : World) (h : Rw g d w) (hab : a < b) (hb : b ≤ 64) :
    Calls Try.prog 20 #[IV g, .int .i64 a, .int .i64 b] w (ToB g (Sort.partialInsertionSort Sa.lt d a b).2 (Sort.partialInsertionSort Sa.lt d a b).1 w) := by
  have H := Lib.hid h
  clear h
  obtain ⟨PI, hPI⟩ : ∃ PI, PI = Sort.partialIns Sa.lt a b (5 - 0) (a + 1) d := ⟨_, rfl⟩
  have hv : Sort.partialInsertionSort Sa.lt d a b = PI := by rw [hPI]; rfl
  rw [hv]
  have HPI := Lib.hid hPI
  clear hPI hv
  have ha9 : a ≤ 63 := by omega
  have b0 : (0 : Int) ≤ (b : Int) := by omega
  have b1 : (b : Int) ≤ 64 := by omega
  go_enter Try.func20, Try.ntmps20
  go_wp2_with fail
  go_loopw [7, 8, 9, 10] (fun v7 v8 v9 v10 wr => ∃ (i s : Nat) (D : Array El), v7 = .int .i64 (i : Int) ∧ v8 = .int .i64 (s : Int) ∧ Hid ((a < i ∧ i ≤ b ∧ s ≤ 5) ∧ Rw g D wr ∧ Fr g w wr ∧ PI = Sort.partialIns Sa.lt a b (5 - s) i D)) (fun _ v8 _ _ _ => (6 - intOf v8).toNat)
  case atStart => exact ⟨a + 1, 0, d, by go_num, rfl, Lib.hid ⟨by omega, H.out, Fr.refl g w, HPI.out⟩⟩
  case round =>
    clear H HPI
    obtain ⟨i0, s, D, rfl, rfl, HQ⟩ := hrel
    obtain ⟨wq, rfl⟩ : ∃ x : World, x = wr := ⟨_, rfl⟩
    have hr9 := HQ.out.1
    by_cases hs : s < 5
    rotate_left
    focus
      have hs5 : s = 5 := by omega
      subst hs5
      go_wp2_with fail
      go_ret
      rw [HQ.out.2.2.2, pi_end]
      exact ⟨rfl, HQ.out.2.1, HQ.out.2.2.1⟩
    have ts : decide ((s : Int) < 5) = true := decide_eq_true (by omega)
    have ts' : decide (s < 5) = true := decide_eq_true hs
    go_upto_block 2 with fail
    go_cut [7] from 17 to 29 (fun v wx => ∃ i : Nat, v = .int .i64 (i : Int) ∧ Hid ((Sort.scanSorted Sa.lt D b i0 = i ∧ i0 ≤ i ∧ i ≤ b) ∧ Rw g D wx ∧ Fr g w wx))
    case first =>
      go_wp2_with fail
      go_loopw [7] (fun v wx => ∃ i : Nat, v = .int .i64 (i : Int) ∧ Hid ((i0 ≤ i ∧ i ≤ b) ∧ Rw g D wx ∧ Fr g w wx ∧ Sort.scanSorted Sa.lt D b i0 = Sort.scanSorted Sa.lt D b i)) (fun v _ => 70 - (intOf v).toNat)
      case atStart => exact ⟨i0, rfl, Lib.hid ⟨⟨Nat.le_refl _, by omega⟩, HQ.out.2.1, HQ.out.2.2.1, rfl⟩⟩
      case round =>
        obtain ⟨i, rfl, HI⟩ := hrel
        obtain ⟨wo, rfl⟩ : ∃ x : World, x = wr := ⟨_, rfl⟩
        have hi9 := HI.out.1
        have y0 : (0 : Int) ≤ (i : Int) := by omega
        have y1 : (i : Int) ≤ 65 := by omega
        by_cases hle : i < b
        · have t1 : decide ((i : Int) < (b : Int)) = true := decide_eq_true (by omega)
          have t1' : decide (i < b) = true := decide_eq_true hle
          have HLE := Lib.hid hle
          have HE := Lib.hid (show (i : Int) - 1 = ((i - 1 : Nat) : Int) by omega)
          cases hv : Sa.lt D[i]! D[i - 1]!
          · have HV := Lib.hid hv
            clear hv
            go_wp2_with fail
            rw [HE.out]
            refine (less47 g i (i - 1) D _ HI.out.2.1 (by omega) (by omega)).mono ?_
            rintro e w1 ⟨rfl, hb1⟩
            rw [HV.out]
            have HB1 := Lib.hid hb1
            clear hb1
            go_wp2_with fail
            go_roundw
            case rel => exact ⟨i + 1, by go_num, Lib.hid ⟨by omega, HI.out.2.1.below HB1.out, HI.out.2.2.1.bel HB1.out, by rw [HI.out.2.2.2, scanSorted_go _ _ _ _ HLE.out HV.out]⟩⟩
            case measure => simp [intOf] <;> omega
          · have HV := Lib.hid hv
            clear hv
            go_wp2_with fail
            rw [HE.out]
            refine (less47 g i (i - 1) D _ HI.out.2.1 (by omega) (by omega)).mono ?_
            rintro e w1 ⟨rfl, hb1⟩
            rw [HV.out]
            have HB1 := Lib.hid hb1
            clear hb1
            go_wp2_with fail
            go_meet
            exact ⟨i, rfl, Lib.hid ⟨⟨by rw [HI.out.2.2.2, scanSorted_stop _ _ _ _ (Or.inr HV.out)], hi9⟩, HI.out.2.1.below HB1.out, HI.out.2.2.1.bel HB1.out⟩⟩
        · have t1 : decide ((i : Int) < (b : Int)) = false := decide_eq_false (by omega)
          have t1' : decide (i < b) = false := decide_eq_false hle
          have t3 : ¬ ((i : Int) < (b : Int)) := by omega
          have HLE := Lib.hid hle
          clear hle
          go_wp2_with fail
          go_meet
          exact ⟨i, rfl, Lib.hid ⟨⟨by rw [HI.out.2.2.2, scanSorted_stop _ _ _ _ (Or.inl HLE.out)], hi9⟩, HI.out.2.1, HI.out.2.2.1⟩⟩
    case rest =>
      obtain ⟨K, rfl, HK⟩ := hcut
      have hk9 := HK.out.1.2
      have HPI := Lib.hid HQ.out.2.2.2
      have HKE := Lib.hid HK.out.1.1
      clear HQ
      have y0 : (0 : Int) ≤ (K : Int) := by omega
      have y1 : (K : Int) ≤ 65 := by omega
      by_cases hkb : K = b
      · have t1 : ((K : Int) == (b : Int)) = true := beq_iff_eq.2 (by omega)
        have HKB := Lib.hid hkb
        have HS := Lib.hid hs
        clear hkb
        go_wp2_with fail
        go_ret
        rw [HPI.out, pi_true _ _ _ _ _ _ HS.out (HKE.out.trans HKB.out)]
        exact ⟨rfl, HK.out.2.1, HK.out.2.2⟩
      have t1 : ((K : Int) == (b : Int)) = false := beq_eq_false_iff_ne.2 (by omega)
      have HKB := Lib.hid hkb
      have HS := Lib.hid hs
      have hk8 : K < b := by omega
      clear hkb
      by_cases h50 : b - a < 50
      · have t2 : decide ((b : Int) - (a : Int) < 50) = true := decide_eq_true (by omega)
        have H50 := Lib.hid h50
        clear h50
        go_wp2_with fail
        go_ret
        rw [HPI.out, pi_short _ _ _ _ _ _ HS.out (by rw [HKE.out]; exact HKB.out) H50.out]
        exact ⟨rfl, HK.out.2.1, HK.out.2.2⟩
      have t2 : decide ((b : Int) - (a : Int) < 50) = false := decide_eq_false (by omega)
      have HG := Lib.hid (HPI.out.trans (pi_go Sa.lt a b s i0 K D hs HKE.out HKB.out h50))
      clear h50 HPI HKE
      obtain ⟨M, hM⟩ : ∃ M, M = K - 1 := ⟨_, rfl⟩
      have HE := Lib.hid (show (K : Int) - 1 = (M : Int) by omega)
      have HM := Lib.hid hM
      rw [← hM] at HG
      go_wp2_with fail
      rw [HE.out]
      refine (swapT g K M D _ HK.out.2.1 (by omega) (by omega)).mono ?_
      rintro e w2 ⟨rfl, hr, hf⟩
      have HR := Lib.hid (And.intro hr (Fr.trans HK.out.2.2 hf))
      clear hr hf HK
      obtain ⟨D1, hD1⟩ : ∃ D1, D1 = Sort.swp D K M := ⟨_, rfl⟩
      rw [← hD1] at HG HR
      clear hD1
      have hm9 : M ≤ 63 := by omega
      have HFD := Lib.hid (show Sort.fixDown Sa.lt a K D1 = if K - a ≥ 2 then Sort.shiftDown Sa.lt M D1 else D1 by rw [hM]; rfl)
      clear hM
      go_upto_if 45 with fail
      go_cut [9] (fun v9 wx => Hid (Rw g (Sort.fixDown Sa.lt a K D1) wx ∧ Fr g w wx))
      case first =>
        by_cases h2 : K - a ≥ 2
        · have t4 : decide (2 ≤ (K : Int) - (a : Int)) = true := decide_eq_true (by omega)
          have t5 : (2 : Int) ≤ (K : Int) - (a : Int) := by omega
          rw [t4]
          have hF : Sort.fixDown Sa.lt a K D1 = Sort.shiftDown Sa.lt M D1 := by rw [HFD.out, if_pos h2]
          obtain ⟨SD, hSD⟩ : ∃ SD, SD = Sort.shiftDown Sa.lt M D1 := ⟨_, rfl⟩
          rw [← hSD] at hF
          have HSD := Lib.hid hSD
          have HF := Lib.hid hF
          clear hSD hF h2 HFD
          go_upto_block 4 with fail
          rw [HE.out]
          go_wp2_with fail
          go_loopw [9] (fun v9 wx => ∃ (j : Nat) (dj : Array El), v9 = .int .i64 (j : Int) ∧ Hid (j ≤ 63 ∧ Rw g dj wx ∧ Fr g w wx ∧ SD = Sort.shiftDown Sa.lt j dj)) (fun v _ => (intOf v).toNat)
          case atStart => exact ⟨M, D1, rfl, Lib.hid ⟨hm9, HR.out.1, HR.out.2, HSD.out⟩⟩
          case round =>
            clear HR HSD
            obtain ⟨j, dj, rfl, HI⟩ := hrel
            obtain ⟨wo, rfl⟩ : ∃ x : World, x = wr := ⟨_, rfl⟩
            have hi9 := HI.out.1
            have y0 : (0 : Int) ≤ (j : Int) := by omega
            have y1 : (j : Int) ≤ 65 := by omega
            by_cases hle : 1 ≤ j
            · have t1 : decide ((1 : Int) ≤ (j : Int)) = true := decide_eq_true (by omega)
              have t1' : decide (1 ≤ j) = true := decide_eq_true hle
              have HLE := Lib.hid hle
              have HEJ := Lib.hid (show (j : Int) - 1 = ((j - 1 : Nat) : Int) by omega)
              cases hv : Sa.lt dj[j]! dj[j - 1]!
              · have HV := Lib.hid hv
                clear hv
                go_wp2_with fail
                rw [HEJ.out]
                refine (less47 g j (j - 1) dj _ HI.out.2.1 (by omega) (by omega)).mono ?_
                rintro e w1 ⟨rfl, hb1⟩
                rw [HV.out]
                have HB1 := Lib.hid hb1
                clear hb1
                go_wp2_with fail
                go_meet
                exact Lib.hid ⟨by rw [HF.out, HI.out.2.2.2, shiftDown_stop _ _ _ (Or.inr HV.out)]; exact HI.out.2.1.below HB1.out, HI.out.2.2.1.bel HB1.out⟩
              · have HV := Lib.hid hv
                clear hv
                go_wp2_with fail
                rw [HEJ.out]
                refine (less47 g j (j - 1) dj _ HI.out.2.1 (by omega) (by omega)).mono ?_
                rintro e w1 ⟨rfl, hb1⟩
                rw [HV.out]
                have HB1 := Lib.hid hb1
                clear hb1
                go_wp2_with fail
                rw [HEJ.out]
                refine (swapT g j (j - 1) dj _ (HI.out.2.1.below HB1.out) (by omega) (by omega)).mono ?_
                rintro e w3 ⟨rfl, hr, hf⟩
                have HR2 := Lib.hid (And.intro hr (Fr.trans (HI.out.2.2.1.bel HB1.out) hf))
                clear hr hf
                go_wp2_with fail
                go_roundw
                case rel => exact ⟨j - 1, Sort.swp dj j (j - 1), vi (by omega), Lib.hid ⟨by omega, HR2.out.1, HR2.out.2, by rw [HI.out.2.2.2, shiftDown_go _ _ _ HLE.out HV.out]⟩⟩
                case measure => simp [intOf] <;> omega
            · have hj0 : j = 0 := by omega
              subst hj0
              go_wp2_with fail
              go_meet
              exact Lib.hid ⟨by rw [HF.out, HI.out.2.2.2, shiftDown_stop _ _ _ (Or.inl rfl)]; exact HI.out.2.1, HI.out.2.2.1⟩
        · have t4 : decide (2 ≤ (K : Int) - (a : Int)) = false := decide_eq_false (by omega)
          have t5 : ¬ ((2 : Int) ≤ (K : Int) - (a : Int)) := by omega
          rw [t4]
          have HF := Lib.hid (show Sort.fixDown Sa.lt a K D1 = D1 by rw [HFD.out, if_neg h2])
          clear h2 HFD
          go_wp2_with fail
          go_meet
          rw [HF.out]
          exact HR
      case rest =>
        clear HR HFD
        have HR := Lib.hid hcut.out
        clear hcut
        obtain ⟨D2, hD2⟩ : ∃ D2, D2 = Sort.fixDown Sa.lt a K D1 := ⟨_, rfl⟩
        rw [← hD2] at HG HR
        clear hD2
        have HFU := Lib.hid (show Sort.fixUp Sa.lt b K D2 = if b - K ≥ 2 then Sort.shiftUp Sa.lt b (K + 1) D2 else D2 from rfl)
        by_cases h2 : b - K ≥ 2
        · have t4 : decide (2 ≤ (b : Int) - (K : Int)) = true := decide_eq_true (by omega)
          have t5 : (2 : Int) ≤ (b : Int) - (K : Int) := by omega
          have hF : Sort.fixUp Sa.lt b K D2 = Sort.shiftUp Sa.lt b (K + 1) D2 := by rw [HFU.out, if_pos h2]
          obtain ⟨SD, hSD⟩ : ∃ SD, SD = Sort.shiftUp Sa.lt b (K + 1) D2 := ⟨_, rfl⟩
          rw [← hSD] at hF
          have HSD := Lib.hid hSD
          have HF := Lib.hid hF
          clear hSD hF h2 HFU
          go_wp2_with fail
          go_loopw [10] (fun v10 wx => ∃ (j : Nat) (dj : Array El), v10 = .int .i64 (j : Int) ∧ Hid ((1 ≤ j ∧ j ≤ 65) ∧ Rw g dj wx ∧ Fr g w wx ∧ SD = Sort.shiftUp Sa.lt b j dj)) (fun v _ => (70 - intOf v).toNat)
          case atStart => exact ⟨K + 1, D2, by go_num, Lib.hid ⟨by omega, HR.out.1, HR.out.2, HSD.out⟩⟩
          case round =>
            clear HR HSD
            obtain ⟨j, dj, rfl, HI⟩ := hrel
            obtain ⟨wo, rfl⟩ : ∃ x : World, x = wr := ⟨_, rfl⟩
            have hi9 := HI.out.1
            have y0 : (0 : Int) ≤ (j : Int) := by omega
            have y1 : (j : Int) ≤ 65 := by omega
            by_cases hle : j < b
            · have t1 : decide ((j : Int) < (b : Int)) = true := decide_eq_true (by omega)
              have t1' : decide (j < b) = true := decide_eq_true hle
              have HLE := Lib.hid hle
              have HEJ := Lib.hid (show (j : Int) - 1 = ((j - 1 : Nat) : Int) by omega)
              cases hv : Sa.lt dj[j]! dj[j - 1]!
              · have HV := Lib.hid hv
                clear hv
                go_wp2_with fail
                rw [HEJ.out]
                refine (less47 g j (j - 1) dj _ HI.out.2.1 (by omega) (by omega)).mono ?_
                rintro e w1 ⟨rfl, hb1⟩
                rw [HV.out]
                have HB1 := Lib.hid hb1
                clear hb1
                go_wp2_with fail
                go_roundw
                case rel => exact ⟨K, s + 1, _, rfl, by go_num, Lib.hid ⟨by omega, HI.out.2.1.below HB1.out, HI.out.2.2.1.bel HB1.out, by rw [HG.out, HF.out, HI.out.2.2.2, shiftUp_stop _ _ _ _ (Or.inr HV.out)]⟩⟩
                case measure => simp [intOf] <;> omega
              · have HV := Lib.hid hv
                clear hv
                go_wp2_with fail
                rw [HEJ.out]
                refine (less47 g j (j - 1) dj _ HI.out.2.1 (by omega) (by omega)).mono ?_
                rintro e w1 ⟨rfl, hb1⟩
                rw [HV.out]
                have HB1 := Lib.hid hb1
                clear hb1
                go_wp2_with fail
                rw [HEJ.out]
                refine (swapT g j (j - 1) dj _ (HI.out.2.1.below HB1.out) (by omega) (by omega)).mono ?_
                rintro e w3 ⟨rfl, hr, hf⟩
                have HR2 := Lib.hid (And.intro hr (Fr.trans (HI.out.2.2.1.bel HB1.out) hf))
                clear hr hf
                go_wp2_with fail
                go_roundw
                case rel => exact ⟨j + 1, Sort.swp dj j (j - 1), by go_num, Lib.hid ⟨by omega, HR2.out.1, HR2.out.2, by rw [HI.out.2.2.2, shiftUp_go _ _ _ _ HLE.out HV.out]⟩⟩
                case measure => simp [intOf] <;> omega
            · have t1 : decide ((j : Int) < (b : Int)) = false := decide_eq_false (by omega)
              have t1' : decide (j < b) = false := decide_eq_false hle
              have t3 : ¬ ((j : Int) < (b : Int)) := by omega
              have HLE := Lib.hid hle
              clear hle
              go_wp2_with fail
              go_roundw
              case rel => exact ⟨K, s + 1, _, rfl, by go_num, Lib.hid ⟨by omega, HI.out.2.1, HI.out.2.2.1, by rw [HG.out, HF.out, HI.out.2.2.2, shiftUp_stop _ _ _ _ (Or.inl HLE.out)]⟩⟩
              case measure => simp [intOf] <;> omega
        · have t4 : decide (2 ≤ (b : Int) - (K : Int)) = false := decide_eq_false (by omega)
          have t5 : ¬ ((2 : Int) ≤ (b : Int) - (K : Int)) := by omega
          have HF := Lib.hid (show Sort.fixUp Sa.lt b K D2 = D2 by rw [HFU.out, if_neg h2])
          clear h2 HFU
          go_wp2_with fail
          go_roundw
          case rel => exact ⟨K, s + 1, _, rfl, by go_num, Lib.hid ⟨by omega, HR.out.1, HR.out.2, by rw [HG.out, HF.out]⟩⟩
          case measure => simp [intOf] <;> omega
end Go.Proofs.Ytfmeiljapojoiaa.Sg
