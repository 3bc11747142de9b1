/-
  Proved: partition on entries of three cells does what the plain function does. Conditions: those that each theorem names as its hypotheses, and no
  others.
-/
import Derived.Test.YtfmeiljapojoiaaSd
import Derived.Sort.WalkC4
import Derived.Deep.CutBlock
namespace Go.Proofs.Ytfmeiljapojoiaa.Se
open Go.RowKit Mem Rws Sa Sc
set_option linter.unusedVariables false
set_option linter.unusedSimpArgs false
/-- A pair of results. -/
def ToP (g : Nat) (j : Nat) (b : Bool) (d' : Array El) (w : World) (e : Ending) (w' : World) : Prop := e = .returned (.tuple #[.int .i64 (j : Int), .bool b]) ∧ Rw g d' w' ∧ Fr g w w'
def ToI (g : Nat) (j : Nat) (d' : Array El) (w : World) (e : Ending) (w' : World) : Prop := e = .returned (.int .i64 (j : Int)) ∧ Rw g d' w' ∧ Fr g w w'
set_option maxRecDepth 100000 in
set_option maxHeartbeats 32000000 in
theorem part22 (g a b pv : Nat) (d : Array El) (w : World) (h : Rw g d w) (ha : a ≤ pv) (hpb : pv < b) (hb : b ≤ 64) :
    Calls Try.prog 22 #[IV g, .int .i64 a, .int .i64 b, .int .i64 pv] w (ToP g (Sort.partition Sa.lt d a b pv).1 (Sort.partition Sa.lt d a b pv).2.1 (Sort.partition Sa.lt d a b pv).2.2 w) := by
  have H := Lib.hid h
  clear h
  obtain ⟨J, hJ⟩ : ∃ J, J = b - 1 := ⟨_, rfl⟩
  obtain ⟨I, hI⟩ : ∃ I, I = a + 1 := ⟨_, rfl⟩
  obtain ⟨D, hD⟩ : ∃ D, D = Sort.swp d a pv := ⟨_, rfl⟩
  have HDJ := Lib.hid (And.intro hI (And.intro hJ hD))
  have EJ := Lib.hid (show (b : Int) - 1 = (J : Int) by omega)
  have EI := Lib.hid (show (a : Int) + 1 = (I : Int) by omega)
  have hr9 : I ≤ J + 1 ∧ J ≤ 63 ∧ 1 ≤ I ∧ a ≤ 63 := by omega
  clear hJ hI
  go_enter Try.func22, Try.ntmps22
  go_wp2_with fail
  refine (swapT g a pv d _ H.out (by omega) (by omega)).mono ?_
  rintro e w1 ⟨rfl, hr, hf⟩
  rw [← hD] at hr
  have HR := Lib.hid (And.intro hr hf)
  clear hr hf H hD
  go_upto_block 0 with fail
  clear ha hpb hb
  rw [EJ.out, EI.out]
  go_cut [10] from 20 to 30 (fun v wx => ∃ i : Nat, v = .int .i64 (i : Int) ∧ Hid ((i = Sort.scanUp (fun x => Sa.lt x D[a]!) D J I ∧ I ≤ i ∧ i ≤ J + 1) ∧ Rw g D wx ∧ Fr g w wx))
  case first =>
    go_wp2_with fail
    go_loopw [10] (fun v wq => ∃ i : Nat, v = .int .i64 (i : Int) ∧ Hid ((I ≤ i ∧ i ≤ J + 1) ∧ Rw g D wq ∧ Fr g w wq ∧ Sort.scanUp (fun x => Sa.lt x D[a]!) D J I = Sort.scanUp (fun x => Sa.lt x D[a]!) D J i)) (fun v _ => 70 - (intOf v).toNat)
    case atStart => exact ⟨I, rfl, Lib.hid ⟨⟨Nat.le_refl _, by omega⟩, HR.out.1, HR.out.2, rfl⟩⟩
    case round =>
      obtain ⟨i, rfl, HI⟩ := hrel
      obtain ⟨wo, rfl⟩ : ∃ x : World, x = wr := ⟨_, rfl⟩
      have hi9 := HI.out.1
      have y0 : (0 : Int) ≤ (i : Int) := by omega
      have y1 : (i : Int) ≤ 65 := by omega
      by_cases hle : i ≤ J
      · have t1 : decide ((i : Int) ≤ (J : Int)) = true := decide_eq_true (by omega)
        have t1' : decide (i ≤ J) = true := decide_eq_true hle
        have HLE := Lib.hid hle
        cases hv : Sa.lt D[i]! D[a]!
        · have HV := Lib.hid hv
          clear hv
          go_wp2_with fail
          refine (less47 g i a D _ HI.out.2.1 (by omega) (by omega)).mono ?_
          rintro e w1 ⟨rfl, hb1⟩
          rw [HV.out]
          have HB1 := Lib.hid hb1
          clear hb1
          go_wp2_with fail
          go_meet
          exact ⟨i, rfl, Lib.hid ⟨⟨by rw [HI.out.2.2.2, scanUp_end _ _ _ _ (Or.inr (by show _ = false; simp only [HV.out, Bool.not_true]))], hi9⟩, HI.out.2.1.below HB1.out, HI.out.2.2.1.bel HB1.out⟩⟩
        · have HV := Lib.hid hv
          clear hv
          go_wp2_with fail
          refine (less47 g i a D _ HI.out.2.1 (by omega) (by omega)).mono ?_
          rintro e w1 ⟨rfl, hb1⟩
          rw [HV.out]
          have HB1 := Lib.hid hb1
          clear hb1
          go_wp2_with fail
          go_roundw
          case rel => exact ⟨i + 1, by go_num, Lib.hid ⟨by omega, HI.out.2.1.below HB1.out, HI.out.2.2.1.bel HB1.out, by rw [HI.out.2.2.2, scanUp_go _ _ _ _ HLE.out (by show _ = true; simp only [HV.out, Bool.not_false])]⟩⟩
          case measure => simp [intOf] <;> omega
      · have t1 : decide ((i : Int) ≤ (J : Int)) = false := decide_eq_false (by omega)
        have t1' : decide (i ≤ J) = false := decide_eq_false hle
        have t3 : ¬ ((i : Int) ≤ (J : Int)) := by omega
        have HLE := Lib.hid hle
        clear hle
        go_wp2_with fail
        go_meet
        exact ⟨i, rfl, Lib.hid ⟨⟨by rw [HI.out.2.2.2, scanUp_end _ _ _ _ (Or.inl HLE.out)], hi9⟩, HI.out.2.1, HI.out.2.2.1⟩⟩
  case rest =>
  obtain ⟨i2, rfl, I2S⟩ := hcut
  have hi2 := I2S.out.1.2
  go_upto_block 2 with fail
  go_cut [11] from 31 to 42 (fun v wx => ∃ j : Nat, v = .int .i64 (j : Int) ∧ Hid ((j = Sort.scanDown (fun x => !Sa.lt x D[a]!) D i2 J ∧ j ≤ J ∧ i2 ≤ j + 1) ∧ Rw g D wx ∧ Fr g w wx))
  case first =>
    go_wp2_with fail
    go_loopw [11] (fun v wq => ∃ j : Nat, v = .int .i64 (j : Int) ∧ Hid ((j ≤ J ∧ i2 ≤ j + 1) ∧ Rw g D wq ∧ Fr g w wq ∧ Sort.scanDown (fun x => !Sa.lt x D[a]!) D i2 J = Sort.scanDown (fun x => !Sa.lt x D[a]!) D i2 j)) (fun v _ => (intOf v).toNat)
    case atStart => exact ⟨J, rfl, Lib.hid ⟨⟨Nat.le_refl _, by omega⟩, I2S.out.2.1, I2S.out.2.2, rfl⟩⟩
    case round =>
      obtain ⟨j, rfl, HI⟩ := hrel
      obtain ⟨wo, rfl⟩ : ∃ x : World, x = wr := ⟨_, rfl⟩
      have hi9 := HI.out.1
      have y0 : (0 : Int) ≤ (j : Int) := by omega
      have y1 : (j : Int) ≤ 65 := by omega
      by_cases hle : i2 ≤ j
      · have t1 : decide ((i2 : Int) ≤ (j : Int)) = true := decide_eq_true (by omega)
        have t1' : decide (i2 ≤ j) = true := decide_eq_true hle
        have HLE := Lib.hid hle
        cases hv : Sa.lt D[j]! D[a]!
        · have HV := Lib.hid hv
          clear hv
          go_wp2_with fail
          refine (less47 g j a D _ HI.out.2.1 (by omega) (by omega)).mono ?_
          rintro e w1 ⟨rfl, hb1⟩
          rw [HV.out]
          have HB1 := Lib.hid hb1
          clear hb1
          go_wp2_with fail
          go_roundw
          case rel => exact ⟨j - 1, vi (by omega), Lib.hid ⟨by omega, HI.out.2.1.below HB1.out, HI.out.2.2.1.bel HB1.out, by rw [HI.out.2.2.2, scanDown_go _ _ _ _ HLE.out (by omega) (by show _ = true; simp only [HV.out, Bool.not_false])]⟩⟩
          case measure => simp [intOf] <;> omega
        · have HV := Lib.hid hv
          clear hv
          go_wp2_with fail
          refine (less47 g j a D _ HI.out.2.1 (by omega) (by omega)).mono ?_
          rintro e w1 ⟨rfl, hb1⟩
          rw [HV.out]
          have HB1 := Lib.hid hb1
          clear hb1
          go_wp2_with fail
          go_meet
          exact ⟨j, rfl, Lib.hid ⟨⟨by rw [HI.out.2.2.2, scanDown_end _ _ _ _ (Or.inr (by show _ = false; simp only [HV.out, Bool.not_true]))], hi9⟩, HI.out.2.1.below HB1.out, HI.out.2.2.1.bel HB1.out⟩⟩
      · have t1 : decide ((i2 : Int) ≤ (j : Int)) = false := decide_eq_false (by omega)
        have t1' : decide (i2 ≤ j) = false := decide_eq_false hle
        have t3 : ¬ ((i2 : Int) ≤ (j : Int)) := by omega
        have HLE := Lib.hid hle
        clear hle
        go_wp2_with fail
        go_meet
        exact ⟨j, rfl, Lib.hid ⟨⟨by rw [HI.out.2.2.2, scanDown_end _ _ _ _ (Or.inl HLE.out)], hi9⟩, HI.out.2.1, HI.out.2.2.1⟩⟩
  case rest =>
  obtain ⟨j2, rfl, J2S⟩ := hcut
  have hj2 := J2S.out.1.2
  have HE := Lib.hid (And.intro I2S.out.1.1 J2S.out.1.1)
  have y0 : (0 : Int) ≤ (i2 : Int) := by omega
  have y1 : (i2 : Int) ≤ 65 := by omega
  have z0 : (0 : Int) ≤ (j2 : Int) := by omega
  have z1 : (j2 : Int) ≤ 65 := by omega
  by_cases hlt : j2 < i2
  · have t1 : decide ((j2 : Int) < (i2 : Int)) = true := decide_eq_true (by omega)
    have t1' : decide (j2 < i2) = true := decide_eq_true hlt
    have HV : Hid (Sort.partition Sa.lt d a b pv = (j2, true, Sort.swp D j2 a)) := Lib.hid (part_first_break Sa.lt d a b pv HDJ.out.1 HDJ.out.2.1 HDJ.out.2.2 HE.out.1 HE.out.2 hlt)
    go_wp2_with fail
    refine (swapT g j2 a D _ J2S.out.2.1 (by omega) (by omega)).mono ?_
    rintro e w2 ⟨rfl, hr, hf⟩
    have HR2 := Lib.hid (And.intro hr (Fr.trans J2S.out.2.2 hf))
    clear hr hf
    go_wp2_with fail
    refine bodyPost_ret (v := .tuple #[.int .i64 (j2 : Int), .bool true]) (by simp [results, Try.results22, go_sem]) rfl ?_
    rw [HV.out]
    exact ⟨rfl, HR2.out.1, HR2.out.2⟩
  · have t1 : decide ((j2 : Int) < (i2 : Int)) = false := decide_eq_false (by omega)
    have t1' : decide (j2 < i2) = false := decide_eq_false hlt
    have t3 : ¬ ((j2 : Int) < (i2 : Int)) := by omega
    have hlt2 := part_scans_lt Sa.lt a I J D (by omega) HE.out.1 HE.out.2 (by omega)
    have HV : Hid (Sort.partition Sa.lt d a b pv = ((Sort.partLoop Sa.lt a (i2 + 1) (j2 - 1) (Sort.swp D i2 j2)).1, false, Sort.swp (Sort.partLoop Sa.lt a (i2 + 1) (j2 - 1) (Sort.swp D i2 j2)).2 (Sort.partLoop Sa.lt a (i2 + 1) (j2 - 1) (Sort.swp D i2 j2)).1 a)) := Lib.hid (part_first_go Sa.lt d a b pv HDJ.out.1 HDJ.out.2.1 HDJ.out.2.2 HE.out.1 HE.out.2 hlt)
    go_wp2_with fail
    refine (swapT g i2 j2 D _ J2S.out.2.1 (by omega) (by omega)).mono ?_
    rintro e w2 ⟨rfl, hr, hf⟩
    have HR2 := Lib.hid (And.intro hr (Fr.trans J2S.out.2.2 hf))
    clear hr hf
    obtain ⟨i3, hi3⟩ : ∃ i3, i3 = i2 + 1 := ⟨_, rfl⟩
    obtain ⟨j3, hj3⟩ : ∃ j3, j3 = j2 - 1 := ⟨_, rfl⟩
    obtain ⟨D2, hD2⟩ : ∃ D2, D2 = Sort.swp D i2 j2 := ⟨_, rfl⟩
    rw [← hi3, ← hj3, ← hD2] at HV
    rw [← hD2] at HR2
    have EI3 := Lib.hid (show (i2 : Int) + 1 = (i3 : Int) by omega)
    have EJ3 := Lib.hid (show (j2 : Int) - 1 = (j3 : Int) by omega)
    have hr3 : i3 ≤ j3 + 1 ∧ j3 ≤ 63 ∧ 1 ≤ i3 := by omega
    clear hi3 hj3 hD2
    obtain ⟨PL, hPL⟩ : ∃ PL, PL = Sort.partLoop Sa.lt a i3 j3 D2 := ⟨_, rfl⟩
    rw [← hPL] at HV
    have HPL := Lib.hid hPL
    clear hPL
    go_upto_block 4 with fail
    rw [EI3.out, EJ3.out]
    clear hlt hlt2 t1 t1' t3 I2S J2S HE HR HDJ hi2 hj2 y0 y1 z0 z1
    go_cut [10, 11] from 59 to 92 (fun v10 v11 wx => ∃ (j : Nat) (D : Array El), v11 = .int .i64 (j : Int) ∧ Hid ((PL = (j, D) ∧ j ≤ 63) ∧ Rw g D wx ∧ Fr g w wx))
    case first =>
      go_wp2_with fail
      go_loopw [10, 11] (fun v10 v11 wq => ∃ (i j : Nat) (D : Array El), v10 = .int .i64 (i : Int) ∧ v11 = .int .i64 (j : Int) ∧ Hid ((i ≤ j + 1 ∧ j ≤ 63 ∧ 1 ≤ i) ∧ Rw g D wq ∧ Fr g w wq ∧ PL = Sort.partLoop Sa.lt a i j D)) (fun v10 v11 _ => (intOf v11 + 1 - intOf v10).toNat)
      case atStart => exact ⟨i3, j3, D2, rfl, rfl, Lib.hid ⟨hr3, HR2.out.1, HR2.out.2, HPL.out⟩⟩
      case round =>
        clear HR2 HPL hr3
        obtain ⟨I, J, D, rfl, rfl, HQ⟩ := hrel
        obtain ⟨wq, rfl⟩ : ∃ x : World, x = wr := ⟨_, rfl⟩
        have hr9' := HQ.out.1
        have HR := Lib.hid (And.intro HQ.out.2.1 HQ.out.2.2.1)
        have HPL := Lib.hid HQ.out.2.2.2
        clear HQ
        go_upto_block 6 with fail
        go_cut [10] from 59 to 69 (fun v wx => ∃ i : Nat, v = .int .i64 (i : Int) ∧ Hid ((i = Sort.scanUp (fun x => Sa.lt x D[a]!) D J I ∧ I ≤ i ∧ i ≤ J + 1) ∧ Rw g D wx ∧ Fr g w wx))
        case first =>
          go_wp2_with fail
          go_loopw [10] (fun v wq => ∃ i : Nat, v = .int .i64 (i : Int) ∧ Hid ((I ≤ i ∧ i ≤ J + 1) ∧ Rw g D wq ∧ Fr g w wq ∧ Sort.scanUp (fun x => Sa.lt x D[a]!) D J I = Sort.scanUp (fun x => Sa.lt x D[a]!) D J i)) (fun v _ => 70 - (intOf v).toNat)
          case atStart => exact ⟨I, rfl, Lib.hid ⟨⟨Nat.le_refl _, by omega⟩, HR.out.1, HR.out.2, rfl⟩⟩
          case round =>
            obtain ⟨i, rfl, HI⟩ := hrel
            obtain ⟨wo, rfl⟩ : ∃ x : World, x = wr := ⟨_, rfl⟩
            have hi9 := HI.out.1
            have y0 : (0 : Int) ≤ (i : Int) := by omega
            have y1 : (i : Int) ≤ 65 := by omega
            by_cases hle : i ≤ J
            · have t1 : decide ((i : Int) ≤ (J : Int)) = true := decide_eq_true (by omega)
              have t1' : decide (i ≤ J) = true := decide_eq_true hle
              have HLE := Lib.hid hle
              cases hv : Sa.lt D[i]! D[a]!
              · have HV := Lib.hid hv
                clear hv
                go_wp2_with fail
                refine (less47 g i a D _ HI.out.2.1 (by omega) (by omega)).mono ?_
                rintro e w1 ⟨rfl, hb1⟩
                rw [HV.out]
                have HB1 := Lib.hid hb1
                clear hb1
                go_wp2_with fail
                go_meet
                exact ⟨i, rfl, Lib.hid ⟨⟨by rw [HI.out.2.2.2, scanUp_end _ _ _ _ (Or.inr (by show _ = false; simp only [HV.out, Bool.not_true]))], hi9⟩, HI.out.2.1.below HB1.out, HI.out.2.2.1.bel HB1.out⟩⟩
              · have HV := Lib.hid hv
                clear hv
                go_wp2_with fail
                refine (less47 g i a D _ HI.out.2.1 (by omega) (by omega)).mono ?_
                rintro e w1 ⟨rfl, hb1⟩
                rw [HV.out]
                have HB1 := Lib.hid hb1
                clear hb1
                go_wp2_with fail
                go_roundw
                case rel => exact ⟨i + 1, by go_num, Lib.hid ⟨by omega, HI.out.2.1.below HB1.out, HI.out.2.2.1.bel HB1.out, by rw [HI.out.2.2.2, scanUp_go _ _ _ _ HLE.out (by show _ = true; simp only [HV.out, Bool.not_false])]⟩⟩
                case measure => simp [intOf] <;> omega
            · have t1 : decide ((i : Int) ≤ (J : Int)) = false := decide_eq_false (by omega)
              have t1' : decide (i ≤ J) = false := decide_eq_false hle
              have t3 : ¬ ((i : Int) ≤ (J : Int)) := by omega
              have HLE := Lib.hid hle
              clear hle
              go_wp2_with fail
              go_meet
              exact ⟨i, rfl, Lib.hid ⟨⟨by rw [HI.out.2.2.2, scanUp_end _ _ _ _ (Or.inl HLE.out)], hi9⟩, HI.out.2.1, HI.out.2.2.1⟩⟩
        case rest =>
        obtain ⟨i2, rfl, I2S⟩ := hcut
        have hi2 := I2S.out.1.2
        go_upto_block 8 with fail
        go_cut [11] from 70 to 81 (fun v wx => ∃ j : Nat, v = .int .i64 (j : Int) ∧ Hid ((j = Sort.scanDown (fun x => !Sa.lt x D[a]!) D i2 J ∧ j ≤ J ∧ i2 ≤ j + 1) ∧ Rw g D wx ∧ Fr g w wx))
        case first =>
          go_wp2_with fail
          go_loopw [11] (fun v wq => ∃ j : Nat, v = .int .i64 (j : Int) ∧ Hid ((j ≤ J ∧ i2 ≤ j + 1) ∧ Rw g D wq ∧ Fr g w wq ∧ Sort.scanDown (fun x => !Sa.lt x D[a]!) D i2 J = Sort.scanDown (fun x => !Sa.lt x D[a]!) D i2 j)) (fun v _ => (intOf v).toNat)
          case atStart => exact ⟨J, rfl, Lib.hid ⟨⟨Nat.le_refl _, by omega⟩, I2S.out.2.1, I2S.out.2.2, rfl⟩⟩
          case round =>
            obtain ⟨j, rfl, HI⟩ := hrel
            obtain ⟨wo, rfl⟩ : ∃ x : World, x = wr := ⟨_, rfl⟩
            have hi9 := HI.out.1
            have y0 : (0 : Int) ≤ (j : Int) := by omega
            have y1 : (j : Int) ≤ 65 := by omega
            by_cases hle : i2 ≤ j
            · have t1 : decide ((i2 : Int) ≤ (j : Int)) = true := decide_eq_true (by omega)
              have t1' : decide (i2 ≤ j) = true := decide_eq_true hle
              have HLE := Lib.hid hle
              cases hv : Sa.lt D[j]! D[a]!
              · have HV := Lib.hid hv
                clear hv
                go_wp2_with fail
                refine (less47 g j a D _ HI.out.2.1 (by omega) (by omega)).mono ?_
                rintro e w1 ⟨rfl, hb1⟩
                rw [HV.out]
                have HB1 := Lib.hid hb1
                clear hb1
                go_wp2_with fail
                go_roundw
                case rel => exact ⟨j - 1, vi (by omega), Lib.hid ⟨by omega, HI.out.2.1.below HB1.out, HI.out.2.2.1.bel HB1.out, by rw [HI.out.2.2.2, scanDown_go _ _ _ _ HLE.out (by omega) (by show _ = true; simp only [HV.out, Bool.not_false])]⟩⟩
                case measure => simp [intOf] <;> omega
              · have HV := Lib.hid hv
                clear hv
                go_wp2_with fail
                refine (less47 g j a D _ HI.out.2.1 (by omega) (by omega)).mono ?_
                rintro e w1 ⟨rfl, hb1⟩
                rw [HV.out]
                have HB1 := Lib.hid hb1
                clear hb1
                go_wp2_with fail
                go_meet
                exact ⟨j, rfl, Lib.hid ⟨⟨by rw [HI.out.2.2.2, scanDown_end _ _ _ _ (Or.inr (by show _ = false; simp only [HV.out, Bool.not_true]))], hi9⟩, HI.out.2.1.below HB1.out, HI.out.2.2.1.bel HB1.out⟩⟩
            · have t1 : decide ((i2 : Int) ≤ (j : Int)) = false := decide_eq_false (by omega)
              have t1' : decide (i2 ≤ j) = false := decide_eq_false hle
              have t3 : ¬ ((i2 : Int) ≤ (j : Int)) := by omega
              have HLE := Lib.hid hle
              clear hle
              go_wp2_with fail
              go_meet
              exact ⟨j, rfl, Lib.hid ⟨⟨by rw [HI.out.2.2.2, scanDown_end _ _ _ _ (Or.inl HLE.out)], hi9⟩, HI.out.2.1, HI.out.2.2.1⟩⟩
        case rest =>
        obtain ⟨j2, rfl, J2S⟩ := hcut
        have hj2 := J2S.out.1.2
        have HE := Lib.hid (And.intro I2S.out.1.1 J2S.out.1.1)
        have y0 : (0 : Int) ≤ (i2 : Int) := by omega
        have y1 : (i2 : Int) ≤ 65 := by omega
        have z0 : (0 : Int) ≤ (j2 : Int) := by omega
        have z1 : (j2 : Int) ≤ 65 := by omega
        by_cases hlt : j2 < i2
        · have t1 : decide ((j2 : Int) < (i2 : Int)) = true := decide_eq_true (by omega)
          have t1' : decide (j2 < i2) = true := decide_eq_true hlt
          have HLT := Lib.hid hlt
          go_wp2_with fail
          go_meet
          exact ⟨j2, D, rfl, Lib.hid ⟨⟨HPL.out.trans (part_break Sa.lt a I J D HE.out.1 HE.out.2 HLT.out), by omega⟩, J2S.out.2.1, J2S.out.2.2⟩⟩
        · have t1 : decide ((j2 : Int) < (i2 : Int)) = false := decide_eq_false (by omega)
          have t1' : decide (j2 < i2) = false := decide_eq_false hlt
          have t3 : ¬ ((j2 : Int) < (i2 : Int)) := by omega
          have HLT := Lib.hid (part_scans_lt Sa.lt a I J D (by omega) HE.out.1 HE.out.2 (by omega))
          have HNL := Lib.hid hlt
          go_wp2_with fail
          refine (swapT g i2 j2 D _ J2S.out.2.1 (by omega) (by omega)).mono ?_
          rintro e w2 ⟨rfl, hr, hf⟩
          have HR2 := Lib.hid (And.intro hr (Fr.trans J2S.out.2.2 hf))
          clear hr hf
          go_wp2_with fail
          go_roundw
          case rel => exact ⟨i2 + 1, j2 - 1, Sort.swp D i2 j2, by go_num, vi (by have := HLT.out; omega), Lib.hid ⟨by have := HLT.out; omega, HR2.out.1, HR2.out.2, HPL.out.trans (part_go Sa.lt a I J D HE.out.1 HE.out.2 HNL.out)⟩⟩
          case measure => have := HLT.out; simp [intOf] <;> omega
    case rest =>
      obtain ⟨jz, DZ, rfl, HZ⟩ := hcut
      have hz9 := HZ.out.1.2
      go_wp2_with fail
      refine (swapT g jz a DZ _ HZ.out.2.1 (by omega) (by omega)).mono ?_
      rintro e w2 ⟨rfl, hr, hf⟩
      have HR3 := Lib.hid (And.intro hr (Fr.trans HZ.out.2.2 hf))
      clear hr hf
      go_wp2_with fail
      refine bodyPost_ret (v := .tuple #[.int .i64 (jz : Int), .bool false]) (by simp [results, Try.results22, go_sem]) rfl ?_
      rw [HV.out, HZ.out.1.1]
      exact ⟨rfl, HR3.out.1, HR3.out.2⟩
end Go.Proofs.Ytfmeiljapojoiaa.Se
