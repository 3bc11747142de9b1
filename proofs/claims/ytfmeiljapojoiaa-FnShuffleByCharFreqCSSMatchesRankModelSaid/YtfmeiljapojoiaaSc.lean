/-
  Proved: siftDown on entries of three cells does what the plain function of the kit's sort theory does. Conditions: those that each theorem names as
  its hypotheses, and no others.
-/
import Derived.Test.YtfmeiljapojoiaaSa
import Derived.Sort.WalkB2
import Derived.Sort.WalkB3
import Derived.LoopN
import Derived.Deep.CutRange
import Derived.Deep.DeepCutAuto
namespace Go.Proofs.Ytfmeiljapojoiaa.Sc
open Go.RowKit Mem Rws Sa
set_option linter.unusedVariables false
set_option linter.unusedSimpArgs false
theorem vi {k : IntKind} {a b : Int} (h : a = b) : Value.int k a = .int k b := by rw [h]
set_option maxRecDepth 100000 in
set_option maxHeartbeats 16000000 in
theorem sd23 (g lo hi F : Nat) (d : Array El) (w : World) (h : Rw g d w) (hlo : lo ≤ 64) (hb : F + hi ≤ 64) :
    Calls Try.prog 23 #[IV g, .int .i64 lo, .int .i64 hi, .int .i64 F] w (To g (Sort.siftDown Sa.lt hi F lo d) w) := by
  have H := Lib.hid h
  clear h
  obtain ⟨G, hG⟩ : ∃ G, G = Sort.siftDown Sa.lt hi F lo d := ⟨_, rfl⟩
  rw [← hG]
  have HG := Lib.hid hG
  clear hG
  go_enter Try.func23, Try.ntmps23
  go_wp2_with fail
  go_loopw [8, 9] (fun v8 v9 wr => ∃ (r : Nat) (dk : Array El), v8 = .int .i64 (r : Int) ∧ Hid (r ≤ 64 ∧ Rw g dk wr ∧ Fr g w wr ∧ G = Sort.siftDown Sa.lt hi F r dk)) (fun v8 _ _ => 66 - (intOf v8).toNat)
  case atStart => exact ⟨lo, d, rfl, Lib.hid ⟨hlo, H.out, Fr.refl g w, HG.out⟩⟩
  case round =>
    clear H HG
    obtain ⟨r, dk, rfl, HI⟩ := hrel
    obtain ⟨wo, rfl⟩ : ∃ x : World, x = wr := ⟨_, rfl⟩
    have hr9 : r ≤ 64 := HI.out.1
    obtain ⟨c, hc⟩ : ∃ c, c = 2 * r + 1 := ⟨_, rfl⟩
    have HC := Lib.hid (show 2 * (r : Int) + 1 = (c : Int) by omega)
    have HCN := Lib.hid hc
    have y0 : (0 : Int) ≤ (r : Int) := by omega
    have y1 : (r : Int) ≤ 64 := by omega
    have z0 : (0 : Int) ≤ (c : Int) := by omega
    have z1 : (c : Int) ≤ 129 := by omega
    go_upto_region 2 with fail
    rw [HC.out]
    clear hc
    by_cases h0 : hi ≤ c
    · have t1 : decide ((hi : Int) ≤ (c : Int)) = true := decide_eq_true (by omega)
      have t1' : decide (hi ≤ c) = true := decide_eq_true h0
      have H0 := Lib.hid h0
      clear h0
      go_wp2_with fail
      go_end0
      refine ⟨rfl, ?_, HI.out.2.2.1⟩
      rw [HI.out.2.2.2, Sort.sd_end Sa.lt dk (by have := H0.out; have := HCN.out; omega)]
      exact HI.out.2.1
    · have t1 : decide ((hi : Int) ≤ (c : Int)) = false := decide_eq_false (by omega)
      have t1' : decide (hi ≤ c) = false := decide_eq_false h0
      have H0 := Lib.hid (show c < hi by omega)
      have E1 := Lib.hid (show (F : Int) + (c : Int) = ((F + c : Nat) : Int) by omega)
      have E2 := Lib.hid (show (F : Int) + (c : Int) + 1 = ((F + c + 1 : Nat) : Int) by omega)
      have E3 := Lib.hid (show (F : Int) + (r : Int) = ((F + r : Nat) : Int) by omega)
      have E4 := Lib.hid (show (F : Int) + ((c : Int) + 1) = ((F + c + 1 : Nat) : Int) by omega)
      have x1 : F + c < 64 := by omega
      have x2 : F + r < 64 := by have := HCN.out; omega
      clear h0
      by_cases h2 : c + 1 < hi
      · have t2 : decide ((c : Int) + 1 < (hi : Int)) = true := decide_eq_true (by omega)
        have t2' : decide (c + 1 < hi) = true := decide_eq_true h2
        have H2 := Lib.hid h2
        have x3 : F + c + 1 < 64 := by omega
        clear h2
        cases hv : Sa.lt dk[F + c]! dk[F + c + 1]!
        · -- the left child
          have HV := Lib.hid hv
          clear hv
          go_wp2_with fail
          rw [E2.out, E1.out]
          refine (less47 g (F + c) (F + c + 1) dk _ HI.out.2.1 x1 x3).mono ?_
          rintro e w1 ⟨rfl, hb1⟩
          rw [HV.out]
          have HR := Lib.hid (And.intro (HI.out.2.1.below hb1) (HI.out.2.2.1.bel hb1))
          clear hb1
          cases hu : Sa.lt dk[F + r]! dk[F + c]!
          · have HU := Lib.hid hu
            clear hu
            go_wp2_with fail
            rw [E1.out, E3.out]
            refine (less47 g (F + r) (F + c) dk _ HR.out.1 x2 x1).mono ?_
            rintro e w2 ⟨rfl, hb2⟩
            rw [HU.out]
            have HR2 := Lib.hid (And.intro (HR.out.1.below hb2) (HR.out.2.bel hb2))
            clear hb2
            go_wp2_with fail
            go_end0
            refine ⟨rfl, ?_, HR2.out.2⟩
            have e9 := HCN.out
            subst e9
            rw [HI.out.2.2.2.trans (Sort.sd_left_stop Sa.lt dk H0.out (fun _ => HV.out) HU.out)]
            exact HR2.out.1
          · have HU := Lib.hid hu
            clear hu
            go_wp2_with fail
            rw [E1.out, E3.out]
            refine (less47 g (F + r) (F + c) dk _ HR.out.1 x2 x1).mono ?_
            rintro e w2 ⟨rfl, hb2⟩
            rw [HU.out]
            have HR2 := Lib.hid (And.intro (HR.out.1.below hb2) (HR.out.2.bel hb2))
            clear hb2
            go_wp2_with fail
            rw [E1.out, E3.out]
            refine (swapT g (F + r) (F + c) dk _ HR2.out.1 x2 x1).mono ?_
            rintro e w3 ⟨rfl, hr3, hf3⟩
            have HR3 := Lib.hid (And.intro hr3 (Fr.trans HR2.out.2 hf3))
            clear hr3 hf3
            go_wp2_with fail
            go_roundw
            case rel => exact ⟨c, Sort.swp dk (F + r) (F + c), rfl, Lib.hid ⟨by omega, HR3.out.1, HR3.out.2, by
              have e9 := HCN.out
              subst e9
              exact HI.out.2.2.2.trans (Sort.sd_left_go Sa.lt dk H0.out (fun _ => HV.out) HU.out)⟩⟩
            case measure => have := HCN.out; have := H0.out; simp [intOf]; omega
        · have HV := Lib.hid hv
          clear hv
          go_wp2_with fail
          rw [E2.out, E1.out]
          refine (less47 g (F + c) (F + c + 1) dk _ HI.out.2.1 x1 x3).mono ?_
          rintro e w1 ⟨rfl, hb1⟩
          rw [HV.out]
          have HR := Lib.hid (And.intro (HI.out.2.1.below hb1) (HI.out.2.2.1.bel hb1))
          clear hb1
          cases hu : Sa.lt dk[F + r]! dk[F + c + 1]!
          · have HU := Lib.hid hu
            clear hu
            go_wp2_with fail
            rw [E4.out, E3.out]
            refine (less47 g (F + r) (F + c + 1) dk _ HR.out.1 x2 x3).mono ?_
            rintro e w2 ⟨rfl, hb2⟩
            rw [HU.out]
            have HR2 := Lib.hid (And.intro (HR.out.1.below hb2) (HR.out.2.bel hb2))
            clear hb2
            go_wp2_with fail
            go_end0
            refine ⟨rfl, ?_, HR2.out.2⟩
            have e9 := HCN.out
            subst e9
            rw [HI.out.2.2.2.trans (Sort.sd_right_stop Sa.lt dk (by have := H2.out; omega) HV.out HU.out)]
            exact HR2.out.1
          · have HU := Lib.hid hu
            clear hu
            go_wp2_with fail
            rw [E4.out, E3.out]
            refine (less47 g (F + r) (F + c + 1) dk _ HR.out.1 x2 x3).mono ?_
            rintro e w2 ⟨rfl, hb2⟩
            rw [HU.out]
            have HR2 := Lib.hid (And.intro (HR.out.1.below hb2) (HR.out.2.bel hb2))
            clear hb2
            go_wp2_with fail
            rw [E4.out, E3.out]
            refine (swapT g (F + r) (F + c + 1) dk _ HR2.out.1 x2 x3).mono ?_
            rintro e w3 ⟨rfl, hr3, hf3⟩
            have HR3 := Lib.hid (And.intro hr3 (Fr.trans HR2.out.2 hf3))
            clear hr3 hf3
            go_wp2_with fail
            go_roundw
            case rel => exact ⟨c + 1, Sort.swp dk (F + r) (F + c + 1), by go_num, Lib.hid ⟨by omega, HR3.out.1, HR3.out.2, by
              have e9 := HCN.out
              subst e9
              exact HI.out.2.2.2.trans (Sort.sd_right_go Sa.lt dk (by have := H2.out; omega) HV.out HU.out)⟩⟩
            case measure => have := HCN.out; have := H2.out; simp [intOf]; omega
      · have t2 : decide ((c : Int) + 1 < (hi : Int)) = false := decide_eq_false (by omega)
        have t2' : decide (c + 1 < hi) = false := decide_eq_false h2
        have H2 := Lib.hid h2
        clear h2
        have HR := Lib.hid (And.intro HI.out.2.1 HI.out.2.2.1)
        cases hu : Sa.lt dk[F + r]! dk[F + c]!
        · have HU := Lib.hid hu
          clear hu
          go_wp2_with fail
          rw [E1.out, E3.out]
          refine (less47 g (F + r) (F + c) dk _ HR.out.1 x2 x1).mono ?_
          rintro e w2 ⟨rfl, hb2⟩
          rw [HU.out]
          have HR2 := Lib.hid (And.intro (HR.out.1.below hb2) (HR.out.2.bel hb2))
          clear hb2
          go_wp2_with fail
          go_end0
          refine ⟨rfl, ?_, HR2.out.2⟩
          have e9 := HCN.out
          subst e9
          rw [HI.out.2.2.2.trans (Sort.sd_left_stop Sa.lt dk H0.out (fun h => absurd h H2.out) HU.out)]
          exact HR2.out.1
        · have HU := Lib.hid hu
          clear hu
          go_wp2_with fail
          rw [E1.out, E3.out]
          refine (less47 g (F + r) (F + c) dk _ HR.out.1 x2 x1).mono ?_
          rintro e w2 ⟨rfl, hb2⟩
          rw [HU.out]
          have HR2 := Lib.hid (And.intro (HR.out.1.below hb2) (HR.out.2.bel hb2))
          clear hb2
          go_wp2_with fail
          rw [E1.out, E3.out]
          refine (swapT g (F + r) (F + c) dk _ HR2.out.1 x2 x1).mono ?_
          rintro e w3 ⟨rfl, hr3, hf3⟩
          have HR3 := Lib.hid (And.intro hr3 (Fr.trans HR2.out.2 hf3))
          clear hr3 hf3
          go_wp2_with fail
          go_roundw
          case rel => exact ⟨c, Sort.swp dk (F + r) (F + c), rfl, Lib.hid ⟨by omega, HR3.out.1, HR3.out.2, by
            have e9 := HCN.out
            subst e9
            exact HI.out.2.2.2.trans (Sort.sd_left_go Sa.lt dk H0.out (fun h => absurd h H2.out) HU.out)⟩⟩
          case measure => have := HCN.out; have := H0.out; simp [intOf]; omega
end Go.Proofs.Ytfmeiljapojoiaa.Sc
