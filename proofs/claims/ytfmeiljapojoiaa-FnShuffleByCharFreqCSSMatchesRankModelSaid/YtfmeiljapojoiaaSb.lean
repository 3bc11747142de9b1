/-
  Proved: insertionSort on entries of three cells sorts the range it is given. Conditions: those that each theorem names as its hypotheses, and no
  others.
-/
import Derived.Test.YtfmeiljapojoiaaSa
import Derived.Sort.WalkA
import Derived.Sort.WalkB2
import Derived.Sort.WalkB3
import Derived.LoopN
namespace Go.Proofs.Ytfmeiljapojoiaa.Sb
open Go.RowKit Mem Rws Sa
set_option linter.unusedVariables false
set_option linter.unusedSimpArgs false
set_option maxRecDepth 100000 in
set_option maxHeartbeats 8000000 in
theorem ins15 (g a b : Nat) (d : Array El) (w : World) (h : Rw g d w) (ha : a ≤ 64) (hb : b ≤ 64) :
    Calls Try.prog 15 #[IV g, .int .i64 a, .int .i64 b] w (To g (Sort.insertionSort Sa.lt d a b) w) := by
  have H := Lib.hid h
  clear h
  unfold Sort.insertionSort
  obtain ⟨G, hG⟩ : ∃ G, G = Sort.insOuter Sa.lt a b (a + 1) d := ⟨_, rfl⟩
  rw [← hG]
  have HG := Lib.hid hG
  clear hG
  go_enter Try.func15, Try.ntmps15
  go_wp2_with fail
  go_loopw [6, 7] (fun v6 v7 wr => ∃ (i : Nat) (dk : Array El), v6 = .int .i64 (i : Int) ∧ Hid ((a < i ∧ (i ≤ b ∨ i = a + 1)) ∧ Rw g dk wr ∧ Fr g w wr ∧ G = Sort.insOuter Sa.lt a b i dk)) (fun v6 _ _ => 66 - (intOf v6).toNat)
  case atStart => exact ⟨a + 1, d, by go_num, Lib.hid ⟨⟨by omega, Or.inr rfl⟩, H.out, Fr.refl g w, HG.out⟩⟩
  case round =>
    clear H HG
    obtain ⟨i, dk, rfl, HI⟩ := hrel
    obtain ⟨wo, rfl⟩ : ∃ x : World, x = wr := ⟨_, rfl⟩
    have hi9 : a < i ∧ (i ≤ b ∨ i = a + 1) := HI.out.1
    have y0 : (0 : Int) ≤ (i : Int) := by omega
    have y1 : (i : Int) ≤ 65 := by omega
    by_cases hlt : i < b
    · have t1 : decide ((i : Int) < (b : Int)) = true := decide_eq_true (by omega)
      have t1' : decide (i < b) = true := decide_eq_true (by omega)
      have HLT := Lib.hid (And.intro hi9 hlt)
      clear hlt hi9
      go_wp2_with fail
      go_loopw [7] (fun v7 wq => ∃ (j : Nat) (dj : Array El), v7 = .int .i64 (j : Int) ∧ Hid ((a ≤ j ∧ j ≤ i) ∧ Rw g dj wq ∧ Fr g w wq ∧ Sort.insInner Sa.lt a i dk = Sort.insInner Sa.lt a j dj)) (fun v7 _ => (intOf v7).toNat)
      case atStart => exact ⟨i, dk, rfl, Lib.hid ⟨⟨by have := HLT.out; omega, Nat.le_refl _⟩, HI.out.2.1, HI.out.2.2.1, rfl⟩⟩
      case round =>
        obtain ⟨j, dj, rfl, HJ⟩ := hrel
        obtain ⟨wp, rfl⟩ : ∃ x : World, x = wr := ⟨_, rfl⟩
        have hj9 : a ≤ j ∧ j ≤ i := HJ.out.1
        have z0 : (0 : Int) ≤ (j : Int) := by omega
        have z1 : (j : Int) ≤ 65 := by omega
        by_cases haj : a < j
        · have t2 : decide ((a : Int) < (j : Int)) = true := decide_eq_true (by omega)
          have t2' : decide (a < j) = true := decide_eq_true (by omega)
          have hjb : j < 64 := by have := HLT.out; omega
          have HE := Lib.hid (show ((j : Int) - 1) = ((j - 1 : Nat) : Int) by omega)
          have HAJ := Lib.hid haj
          clear haj
          cases hlv : Sa.lt dj[j]! dj[j - 1]!
          · have HL := Lib.hid hlv
            clear hlv
            go_wp2_with fail
            rw [HE.out]
            refine (less47 g j (j - 1) dj _ HJ.out.2.1 hjb (by omega)).mono ?_
            rintro e w1 ⟨rfl, hb1⟩
            rw [HL.out]
            have HB1 := Lib.hid hb1
            clear hb1
            go_wp2_with fail
            go_roundw
            case rel => exact ⟨i + 1, dj, by go_num, Lib.hid ⟨⟨by have := HLT.out; omega, by have := HLT.out; omega⟩, HJ.out.2.1.below HB1.out, HJ.out.2.2.1.bel HB1.out, by
              rw [HI.out.2.2.2, insOuter_go _ _ _ _ _ HLT.out.2, HJ.out.2.2.2, insInner_stop _ _ _ _ (Or.inr HL.out)]⟩⟩
            case measure => have := HLT.out; simp [intOf]; omega
          · have HL := Lib.hid hlv
            clear hlv
            go_wp2_with fail
            rw [HE.out]
            refine (less47 g j (j - 1) dj _ HJ.out.2.1 hjb (by omega)).mono ?_
            rintro e w1 ⟨rfl, hb1⟩
            rw [HL.out]
            have HB1 := Lib.hid hb1
            clear hb1
            go_wp2_with fail
            rw [HE.out]
            refine (swapT g j (j - 1) dj _ (HJ.out.2.1.below HB1.out) hjb (by omega)).mono ?_
            rintro e w2 ⟨rfl, hr2, hf2⟩
            have H2 := Lib.hid (And.intro hr2 (Fr.trans (HJ.out.2.2.1.bel HB1.out) hf2))
            clear hr2 hf2
            go_wp2_with fail
            go_roundw
            case rel => exact ⟨j - 1, Sort.swp dj j (j - 1), by rw [HE.out], Lib.hid ⟨⟨by have := HAJ.out; omega, by omega⟩, H2.out.1, H2.out.2, by
              rw [HJ.out.2.2.2, insInner_go _ _ _ _ HAJ.out HL.out]⟩⟩
            case measure => have := HAJ.out; simp [intOf]; omega
        · have t2 : decide ((a : Int) < (j : Int)) = false := decide_eq_false (by omega)
          have t2' : decide (a < j) = false := decide_eq_false (by omega)
          have t3 : ¬ ((a : Int) < (j : Int)) := by omega
          have HAJ := Lib.hid haj
          clear haj
          go_wp2_with fail
          go_roundw
          case rel => exact ⟨i + 1, dj, by go_num, Lib.hid ⟨⟨by have := HLT.out; omega, by have := HLT.out; omega⟩, HJ.out.2.1, HJ.out.2.2.1, by
              rw [HI.out.2.2.2, insOuter_go _ _ _ _ _ HLT.out.2, HJ.out.2.2.2, insInner_stop _ _ _ _ (Or.inl (by have := HAJ.out; omega))]⟩⟩
          case measure => have := HLT.out; simp [intOf]; omega
    · have t1 : decide ((i : Int) < (b : Int)) = false := decide_eq_false (by omega)
      have t1' : decide (i < b) = false := decide_eq_false (by omega)
      have t3 : ¬ ((i : Int) < (b : Int)) := by omega
      have HLT := Lib.hid hlt
      clear hlt
      go_wp2_with fail
      go_end0
      refine ⟨rfl, ?_, HI.out.2.2.1⟩
      rw [HI.out.2.2.2, insOuter_stop _ _ _ _ _ HLT.out]
      exact HI.out.2.1
end Go.Proofs.Ytfmeiljapojoiaa.Sb
