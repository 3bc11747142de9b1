/-
  The walk of the law: it returns true and touches new blocks alone. Conditions: sizes alone.
-/
import Derived.Test.YtjfegbkbhbhcoaaRows
import Derived.WalkKit
import Derived.ProofKit
import Derived.OpenShut
import Derived.Below
import Derived.Carry
import Derived.ChangeMaps5
import Derived.Handy
import Derived.Lib.Hide
import Derived.WalkSpells
import Derived.OwnWalk
import Derived.Deep.RegionHeld3
import Derived.Deep.CutRange
import Derived.Deep.QuietTactic
import Derived.Test.YtjfegbkbhbhcoaaYf
import Derived.Test.YtjfegbkbhbhcoaaYf
namespace Go.Proofs.Ytjfegbkbhbhcoaa.fnTargetReverseConditionArrayModel
open Go.ChangeShapes Go.WideShapes Go.ChangeAt Go.RowKit
set_option linter.unusedVariables false

open Qts Go.PlainAid Str Mem Rws Ex Go.Maps Go.WideMaps Ya Yb Yc Yd Ye Yf
set_option maxRecDepth 10000000 in
set_option maxHeartbeats 40000000 in
theorem walk (a0 : ByteArray) (a1 : ByteArray) (A2 : Option Addr) (n2 c2 : Nat) (S2 : Nat → ByteArray) (A3 : Option Addr) (n3 c3 : Nat) (X3 : Nat → Option Addr × Nat × Nat × (Nat → ByteArray)) (A4 : Option Addr) (n4 c4 : Nat) (X4 : Nat → Option Addr × Nat × Nat × (Nat → ByteArray)) (w : World) (w0 : a0.size ≤ maxLen) (w1 : a1.size ≤ maxLen) (hA2 : Mem.Rd w w.heap.size 1 A2 n2 (fun j => .string (S2 j))) (hc2 : c2 ≤ maxLen) (hn2 : n2 ≤ c2) (hz2 : A2 = none → n2 = 0 ∧ c2 = 0) (hS2 : ∀ j, j < n2 → (S2 j).size ≤ maxLen) (hA3 : Mem.Rd w w.heap.size 1 A3 n3 (fun j => .slice (X3 j).1 (X3 j).2.1 (X3 j).2.2.1)) (hc3 : c3 ≤ maxLen) (hn3 : n3 ≤ c3) (hz3 : A3 = none → n3 = 0 ∧ c3 = 0) (hX3 : ∀ j, j < n3 → (X3 j).2.1 ≤ (X3 j).2.2.1 ∧ (X3 j).2.2.1 ≤ maxLen ∧ Mem.Rd w w.heap.size 1 (X3 j).1 (X3 j).2.1 (fun l => .string ((X3 j).2.2.2 l)) ∧ ∀ l, l < (X3 j).2.1 → ((X3 j).2.2.2 l).size ≤ maxLen) (hA4 : Mem.Rd w w.heap.size 1 A4 n4 (fun j => .slice (X4 j).1 (X4 j).2.1 (X4 j).2.2.1)) (hc4 : c4 ≤ maxLen) (hn4 : n4 ≤ c4) (hz4 : A4 = none → n4 = 0 ∧ c4 = 0) (hX4 : ∀ j, j < n4 → (X4 j).2.1 ≤ (X4 j).2.2.1 ∧ (X4 j).2.2.1 ≤ maxLen ∧ Mem.Rd w w.heap.size 1 (X4 j).1 (X4 j).2.1 (fun l => .string ((X4 j).2.2.2 l)) ∧ ∀ l, l < (X4 j).2.1 → ((X4 j).2.2.2 l).size ≤ maxLen) :
    Calls Try.prog 5 #[.string a0, .string a1, .slice A2 n2 c2, .slice A3 n3 c3, .slice A4 n4 c4] w fun e w' => e = .returned (.bool true) ∧ Below w.heap.size w w' := by
  have HA2 := Lib.hid hA2
  have HA3 := Lib.hid hA3
  have HA4 := Lib.hid hA4
  have HS2 := Lib.hid hS2
  have HX3 : Hid (Rows2 w n3 X3) := Lib.hid hX3
  have HX4 : Hid (Rows2 w n4 X4) := Lib.hid hX4
  have hN2 : n2 ≤ maxLen := Nat.le_trans hn2 hc2
  have hN3 : n3 ≤ maxLen := Nat.le_trans hn3 hc3
  have hN4 : n4 ≤ maxLen := Nat.le_trans hn4 hc4
  clear hA2 hA3 hA4 hS2 hX3 hX4 hz2 hz3 hz4
  go_enter Try.func5, Try.ntmps5
  go_wp2_with fail
  refine (bytes17 a0 a1 A2 n2 c2 S2 A3 n3 c3 X3 A4 n4 c4 X4 _ w0 w1 HA2.out hN2 HS2.out HA3.out hN3 HX3.out HA4.out hN4 HX4.out).mono ?_
  rintro e w' ⟨b, rfl, hb, rfl⟩
  unfold maxLen at w0 w1 hN2 hN3 hN4 hc2 hc3 hc4
  cases b
  · go_wp2_with fail
    go_ret
    exact ⟨rfl, by go_grown⟩
  obtain ⟨hb2, hb3, hb4⟩ := hb rfl
  have HB2 := Lib.hid hb2
  have HB3 := Lib.hid hb3
  have HB4 := Lib.hid hb4
  clear hb hb2 hb3 hb4
  by_cases g : a0.size ≤ 1048576 ∧ a1.size ≤ 1048576 ∧ n2 ≤ 4096 ∧ n3 ≤ 4096 ∧ n4 = n3
  · obtain ⟨g0, g1, g2, g3, rfl⟩ := g
    have u0 : decide ((1048576 : Int) < (a0.size : Int)) = false := decide_eq_false (by omega)
    have u1 : decide ((1048576 : Int) < (a1.size : Int)) = false := decide_eq_false (by omega)
    have u2 : decide ((4096 : Int) < (n2 : Int)) = false := decide_eq_false (by omega)
    have u3 : decide ((4096 : Int) < (n4 : Int)) = false := decide_eq_false (by omega)
    have u4 : ((n4 : Int) != (n4 : Int)) = false := by simp
    clear w0 w1 hN2 hN3 hN4 hc2 hc3 hc4 hn2 hn3 hn4
    go_upto_region 5 with fail
    clear u0 u1 u2 u3 u4
    go_wp2_with fail
    go_loop [11, 12] (fun z i => ∃ t k : Nat, t ≤ 2097152 ∧ k ≤ n2 ∧ i = .int .i64 k ∧ z = .int .i64 t) (fun _ i => n2 - (intOf i).toNat)
    case atStart => exact ⟨a0.size + a1.size, 0, by omega, by omega, rfl, by first | rfl | (congr 1; omega)⟩
    case round =>
      obtain ⟨t, k, ht, hk, rfl, rfl⟩ := hrel
      by_cases hlt : k < n2
      · obtain ⟨b, off, rfl, hb, hc⟩ := HA2.out (by omega)
        have hck := hc k (by omega)
        have hsk := HB2.out k hlt
        clear hc
        by_cases q2 : t + (16 + (S2 k).size) ≤ 1048576
        · go_wp2_with fail
          go_round
          case rel => exact ⟨t + (16 + (S2 k).size), k + 1, by omega, by omega, by go_num, by first | rfl | (congr 1; omega) | go_num⟩
          case measure => simp [intOf]; omega
        · go_wp2_with fail
          all_goals go_ret
          all_goals exact ⟨rfl, by go_grown⟩
      · have z0 : decide (k < n2) = false := decide_eq_false (by omega)
        clear hk hlt
        go_wp2_with fail
        clear z0
        go_loopw [11, 13] (fun z i wr => ∃ t k : Nat, t ≤ 2097152 ∧ k ≤ n4 ∧ i = .int .i64 k ∧ z = .int .i64 t ∧ Hid (∀ i, i < k → (X3 i).2.1 ≤ 4095 ∧ (X4 i).2.1 = (X3 i).2.1) ∧ Hid (Below w.heap.size w wr)) (fun _ i _ => n4 - (intOf i).toNat)
        case atStart => exact ⟨t, 0, by omega, by omega, rfl, rfl, Lib.hid (fun i hi => by omega), Lib.hid (Below.refl _ _)⟩
        case round =>
          obtain ⟨t, k, ht, hk, rfl, rfl, HL, HW⟩ := hrel
          obtain ⟨wo, rfl⟩ : ∃ wo : World, wo = wr := ⟨_, rfl⟩
          by_cases hlt : k < n4
          · obtain ⟨b3, o3, rfl, hbb3, hc3'⟩ := HA3.out (by omega)
            obtain ⟨b4, o4, rfl, hbb4, hc4'⟩ := HA4.out (by omega)
            obtain ⟨P3, N3, C3, S3, hx3, hN3, hC3, hR3, hS3⟩ := HX3.out.at hlt
            obtain ⟨P4, N4, C4, S4, hx4, hN4, hC4, hR4, hS4⟩ := HX4.out.at hlt
            have hk3 := (HW.out.cell (p := ⟨b3, o3 + k, none⟩) hbb3).trans (hc3' k (by omega))
            have hk4 := (HW.out.cell (p := ⟨b4, o4 + k, none⟩) hbb4).trans (hc4' k (by omega))
            simp only [hx3] at hk3
            simp only [hx4] at hk4
            have hq3 := HB3.out k hlt
            have hq4 := HB4.out k hlt
            simp only [hx3] at hq3
            simp only [hx4] at hq4
            have HQ3 := Lib.hid hq3.2
            have HQ4 := Lib.hid hq4.2
            have HR3 := Lib.hid hR3
            have HR4 := Lib.hid hR4
            have HXX3 := Lib.hid hx3
            have HXX4 := Lib.hid hx4
            have hi0 : (0 : Int) ≤ (k : Int) := by omega
            have hi1 : (k : Int) < (n4 : Int) := by omega
            clear hc3' hc4' hx3 hx4 hR3 hR4 hS3 hS4 hq3 hq4 hC3 hC4 hN3 hN4
            by_cases q1 : N3 ≤ 4095
            · have tq1 : decide (4095 < (N3 : Int)) = false := decide_eq_false (by omega)
              by_cases q2 : N4 = N3
              · subst q2
                have tq2 : ((N4 : Int) != (N4 : Int)) = false := by simp
                have HL2 : Hid (∀ i, i < k + 1 → (X3 i).2.1 ≤ 4095 ∧ (X4 i).2.1 = (X3 i).2.1) := Lib.hid fun i hi => by
                  by_cases e : i = k
                  · rw [e, HXX3.out, HXX4.out]; exact ⟨q1, rfl⟩
                  · exact HL.out i (by omega)
                go_upto_region 15 with fail
                refine wp_region_quiet_lit (by kernel_rfl) (by kernel_rfl) (Qt.out ?_)
                repeat (refine Qt.step (fun K hK => ?_); go_simp; refine hK _ ?_; clear hK K)
                refine Qt.nil ?_
                intro _ hw'
                obtain ⟨nq, hw''⟩ := hw'
                subst hw''
                have HW1 := Lib.hid (Mem.below_drewN HW.out nq)
                by_cases q3 : t + 48 ≤ 1048576
                · have z3 : decide ((1048576 : Int) < (t : Int) + 48) = false := decide_eq_false (by omega)
                  have Q3 := Lib.hid q3
                  clear q3
                  go_wp2_with fail
                  clear z3
                  go_loopw [11, 14] (fun z i wr => ∃ u l : Nat, u ≤ 2097152 ∧ l ≤ N4 ∧ i = .int .i64 l ∧ z = .int .i64 u ∧ Hid (Below w.heap.size w wr)) (fun _ i _ => N4 - (intOf i).toNat)
                  case atStart => exact ⟨t + 48, 0, (by have := Q3.out; omega), by omega, rfl, by first | rfl | (congr 1; omega), HW1⟩
                  case round =>
                    clear HW1 HW
                    obtain ⟨u, l, hu, hl, rfl, rfl, HW⟩ := hrel
                    obtain ⟨wi, rfl⟩ : ∃ wi : World, wi = wr := ⟨_, rfl⟩
                    obtain ⟨b3', o3', e3', hbb3', hc3'⟩ := HA3.out (by omega)
                    obtain ⟨rfl, rfl⟩ : b3 = b3' ∧ o3 = o3' := by simpa using e3'
                    obtain ⟨b4', o4', e4', hbb4', hc4'⟩ := HA4.out (by omega)
                    obtain ⟨rfl, rfl⟩ : b4 = b4' ∧ o4 = o4' := by simpa using e4'
                    have hk3 := (HW.out.cell (p := ⟨b3, o3 + k, none⟩) hbb3).trans (hc3' k (by omega))
                    have hk4 := (HW.out.cell (p := ⟨b4, o4 + k, none⟩) hbb4).trans (hc4' k (by omega))
                    simp only [HXX3.out] at hk3
                    simp only [HXX4.out] at hk4
                    clear hc3' hc4' e3' e4' hbb3' hbb4'
                    by_cases hll : l < N4
                    · obtain ⟨r3, p3, rfl, hr3, hs3⟩ := HR3.out (by omega)
                      obtain ⟨r4, p4, rfl, hr4, hs4⟩ := HR4.out (by omega)
                      have y3 := (HW.out.cell (p := ⟨r3, p3 + l, none⟩) hr3).trans (hs3 l (by omega))
                      have y4 := (HW.out.cell (p := ⟨r4, p4 + l, none⟩) hr4).trans (hs4 l (by omega))
                      have z3 := HQ3.out l hll
                      have z4 := HQ4.out l hll
                      have hj0 : (0 : Int) ≤ (l : Int) := by omega
                      have hj1 : (l : Int) < (N4 : Int) := by omega
                      clear hs3 hs4
                      go_upto_region 23 with fail
                      refine wp_region_quiet_lit (by kernel_rfl) (by kernel_rfl) (Qt.out ?_)
                      repeat (refine Qt.step (fun K hK => ?_); go_simp; refine hK _ ?_; clear hK K)
                      refine Qt.nil ?_
                      intro _ hw'
                      obtain ⟨nq, hw''⟩ := hw'
                      subst hw''
                      have HW2 := Lib.hid (Mem.below_drewN HW.out nq)
                      clear y3 y4 hk3 hk4
                      by_cases q4 : u + (32 + (S3 l).size + (S4 l).size) ≤ 1048576
                      · go_wp2_with fail
                        go_roundw
                        case rel => exact ⟨u + (32 + (S3 l).size + (S4 l).size), l + 1, by omega, by omega, by go_num, (by
                          have e1 := wrap64 (32 + ((S3 l).size : Int)) (by omega) (by omega)
                          have e2 := wrap64 (32 + ((S3 l).size : Int) + ((S4 l).size : Int)) (by omega) (by omega)
                          have e3 := wrap64 ((u : Int) + (32 + ((S3 l).size : Int) + ((S4 l).size : Int))) (by omega) (by omega)
                          rw [e1, e2, e3] <;> (congr 1 <;> omega)), HW2⟩
                        case measure => simp [intOf]; omega
                      · go_wp2_with fail
                        all_goals go_ret
                        all_goals exact ⟨rfl, HW2.out⟩
                    · obtain rfl : l = N4 := by omega
                      go_wp2_with fail
                      go_roundw
                      case rel => exact ⟨u, k + 1, by omega, by omega, by go_num, rfl, HL2, HW⟩
                      case measure => simp [intOf]; omega
                · have z3 : decide ((1048576 : Int) < (t : Int) + 48) = true := decide_eq_true (by omega)
                  clear q3
                  go_wp2_with fail
                  all_goals go_ret
                  all_goals exact ⟨rfl, HW1.out⟩
              · have tq2 : ((N4 : Int) != (N3 : Int)) = true := by rw [bne_iff_ne]; omega
                go_upto_region 15 with fail
                refine wp_region_quiet_lit (by kernel_rfl) (by kernel_rfl) (Qt.out ?_)
                repeat (refine Qt.step (fun K hK => ?_); go_simp; refine hK _ ?_; clear hK K)
                refine Qt.nil ?_
                intro _ hw'
                obtain ⟨nq, hw''⟩ := hw'
                subst hw''
                go_wp2_with fail
                go_ret
                exact ⟨rfl, Mem.below_drewN HW.out _⟩
            · have tq1 : decide (4095 < (N3 : Int)) = true := decide_eq_true (by omega)
              go_upto_region 15 with fail
              refine wp_region_quiet_lit (by kernel_rfl) (by kernel_rfl) (Qt.out ?_)
              repeat (refine Qt.step (fun K hK => ?_); go_simp; refine hK _ ?_; clear hK K)
              refine Qt.nil ?_
              intro _ hw'
              obtain ⟨nq, hw''⟩ := hw'
              subst hw''
              go_wp2_with fail
              go_ret
              exact ⟨rfl, Mem.below_drewN HW.out _⟩
          · have z2 : decide (k < n4) = false := decide_eq_false (by omega)
            have HL3 : Hid (∀ i, i < n4 → (X3 i).2.1 ≤ 4095 ∧ (X4 i).2.1 = (X3 i).2.1) := Lib.hid fun i hi => HL.out i (by omega)
            have hmm := @run_makeMap Try.prog
            clear hk hlt HL
            go_wp2_with fail
            clear z2 hmm
            have HM0 : Hid ((wo.alloc (.map #[] 0)).ownsMap Try.prog 9 (plainElem (H := Unit) Try.prog 4) wo.heap.size 0 (Dm S2 0)) := Lib.hid (by rw [Dm_zero]; exact World.ownsMap_made _ _ _ _)
            have HW0 : Hid (Below w.heap.size w (wo.alloc (.map #[] 0))) := Lib.hid (HW.out.alloc HW.out.size _)
            have HWO := Lib.hid HW.out.size
            go_loopw [16] (fun i wr => ∃ k : Nat, k ≤ n2 ∧ i = .int .i64 k ∧ Hid (Below w.heap.size w wr) ∧ Hid (wr.ownsMap Try.prog 9 (plainElem (H := Unit) Try.prog 4) wo.heap.size k (Dm S2 k))) (fun i _ => n2 - (intOf i).toNat)
            case atStart => exact ⟨0, by omega, rfl, HW0, HM0⟩
            case round =>
              clear HW HM0 HW0
              obtain ⟨j, hj, rfl, HW, HM⟩ := hrel
              obtain ⟨wm, rfl⟩ : ∃ wm : World, wm = wr := ⟨_, rfl⟩
              by_cases hjl : j < n2
              · obtain ⟨b, off, rfl, hb, hc⟩ := HA2.out (by omega)
                have hcj := (HW.out.cell (p := ⟨b, off + j, none⟩) hb).trans (hc j (by omega))
                have hj0 : (0 : Int) ≤ (j : Int) := by omega
                have hj1 : (j : Int) < (n2 : Int) := by omega
                clear hc
                obtain ⟨w2, r2, o2, gr2⟩ := HM.out.update law Try.underlying44 (by unfold maxLen; omega) (keyOf_string_mk Try.underlying9 (s := S2 j) (HS2.out j hjl)) (plainElem_bool Try.underlying4 true)
                have HM2 : Hid (w2.ownsMap Try.prog 9 (plainElem (H := Unit) Try.prog 4) wo.heap.size (j + 1) (Dm S2 (j + 1))) := Lib.hid (by rw [Dm_succ]; exact o2)
                have HW2 : Hid (Below w.heap.size w w2) := Lib.hid (HW.out.grown gr2 HW.out.size (by intro x e; cases e; exact HWO.out))
                clear o2 gr2
                go_wp2_with fail
                go_roundw
                case rel => exact ⟨j + 1, by omega, by go_num, HW2, HM2⟩
                case measure => simp [intOf]; omega
              · have z2 : decide (j < n2) = false := decide_eq_false (by omega)
                have HC : Hid (Cnd (.map (some wo.heap.size)) (inS S2 n2) wm) := Lib.hid (cnd_of (n := n2) (k := j) (by rw [show n2 = j from by omega]; exact HM.out))
                have hmk := run_mkc (P := Try.prog) 27 36 _ zc36 rfl _ _ Try.underlying27 info36 n4 n4 (Nat.le_refl _) (by omega) (by omega)
                clear hj hjl HM
                go_wp2_with fail
                clear z2 hmk
                have HWM := HW
                have HZ0 : Hid (wm.heap.size < (wm.alloc (.cells (madeCells zc36 (n4 * 7)) 36)).heap.size) := Lib.hid (by simp)
                have HI0 : Hid (Its (wm.alloc (.cells (madeCells zc36 (n4 * 7)) 36)) wm.heap.size n4 0 (Lx X3) (Kx X3) (Kx X4) tk) := Lib.hid (Its.new _ _ _ _ _ _)
                have HB0 : Hid (Below wm.heap.size wm (wm.alloc (.cells (madeCells zc36 (n4 * 7)) 36))) := Lib.hid (by go_grown)
                clear HW
                go_loopw [18] (fun i wr => ∃ k : Nat, k ≤ n4 ∧ i = .int .i64 k ∧ Hid (Below wm.heap.size wm wr) ∧ Hid (Its wr wm.heap.size n4 k (Lx X3) (Kx X3) (Kx X4) tk)) (fun i _ => n4 - (intOf i).toNat)
                case atStart => exact ⟨0, by omega, rfl, HB0, HI0⟩
                case round =>
                  clear HI0 HB0 HZ0
                  obtain ⟨k, hk, rfl, HB, HI⟩ := hrel
                  obtain ⟨wp, rfl⟩ : ∃ wp : World, wp = wr := ⟨_, rfl⟩
                  have HWP : Hid (Below w.heap.size w wp) := Lib.hid (HWM.out.trans (HB.out.mono HWM.out.size))
                  by_cases hlt : k < n4
                  · obtain ⟨b3, o3, rfl, hbb3, hc3'⟩ := HA3.out (by omega)
                    obtain ⟨b4, o4, rfl, hbb4, hc4'⟩ := HA4.out (by omega)
                    obtain ⟨P3, N3, C3, S3, hx3, hN3, hC3, hR3, hS3⟩ := HX3.out.at hlt
                    obtain ⟨P4, N4, C4, S4, hx4, hN4, hC4, hR4, hS4⟩ := HX4.out.at hlt
                    have hL3 := HL3.out k hlt
                    rw [hx3, hx4] at hL3
                    obtain ⟨q1, q2⟩ := hL3
                    simp only at q1 q2
                    subst q2
                    have hz3 := hc3' k (by omega)
                    have hz4 := hc4' k (by omega)
                    simp only [hx3] at hz3
                    simp only [hx4] at hz4
                    have Z3 : Hid (∀ W, Below w.heap.size w W → W.cell? ⟨b3, o3 + k, none⟩ = some (.slice P3 N4 C3)) := Lib.hid fun W h => (h.cell (p := ⟨b3, o3 + k, none⟩) hbb3).trans hz3
                    have Z4 : Hid (∀ W, Below w.heap.size w W → W.cell? ⟨b4, o4 + k, none⟩ = some (.slice P4 N4 C4)) := Lib.hid fun W h => (h.cell (p := ⟨b4, o4 + k, none⟩) hbb4).trans hz4
                    have HR3 := Lib.hid hR3
                    have HR4 := Lib.hid hR4
                    have HXX3 := Lib.hid hx3
                    have HXX4 := Lib.hid hx4
                    have HI1 := HI.out.there hlt
                    have hi0 : (0 : Int) ≤ (k : Int) := by omega
                    have hi1 : (k : Int) < (n4 : Int) := by omega
                    have hkm : k < 4096 := by omega
                    have HBB3 := Lib.hid hbb3
                    have HBB4 := Lib.hid hbb4
                    clear hc3' hc4' hx3 hx4 hR3 hR4 hS3 hS4 hC3 hC4 hN3 hN4 hz3 hz4 HI1 hbb3 hbb4
                    have y3 := Z3.out wp HWP.out
                    have hmk := run_mkc (P := Try.prog) 28 41 _ zc41 rfl _ _ Try.underlying28 info41 N4 N4 (Nat.le_refl _) (by omega) (by omega)
                    go_wp2_with fail
                    clear hmk y3
                    have HE0 : Hid (Ens (wp.alloc (.cells (madeCells zc41 (N4 * 10)) 41)) wp.heap.size N4 0 S3 S4 (tk k)) := Lib.hid (Ens.new _ _ _ _ _)
                    have HF0 : Hid (Below wp.heap.size wp (wp.alloc (.cells (madeCells zc41 (N4 * 10)) 41))) := Lib.hid (by go_grown)
                    go_loopw [20] (fun i wr => ∃ l : Nat, l ≤ N4 ∧ i = .int .i64 l ∧ Hid (Below wp.heap.size wp wr) ∧ Hid (Ens wr wp.heap.size N4 l S3 S4 (tk k))) (fun i _ => N4 - (intOf i).toNat)
                    case atStart => exact ⟨0, by omega, rfl, HF0, HE0⟩
                    case round =>
                      clear HE0 HF0
                      obtain ⟨l, hl, rfl, HF, HE⟩ := hrel
                      obtain ⟨wl, rfl⟩ : ∃ wl : World, wl = wr := ⟨_, rfl⟩
                      have HWL : Hid (Below w.heap.size w wl) := Lib.hid (HWP.out.trans (HF.out.mono HWP.out.size))
                      have y3 := Z3.out wl HWL.out
                      have y4 := Z4.out wl HWL.out
                      by_cases hll : l < N4
                      · obtain ⟨r3, p3, rfl, hr3, hs3⟩ := HR3.out (by omega)
                        obtain ⟨r4, p4, rfl, hr4, hs4⟩ := HR4.out (by omega)
                        have y5 := (HWL.out.cell (p := ⟨r3, p3 + l, none⟩) hr3).trans (hs3 l (by omega))
                        have y6 := (HWL.out.cell (p := ⟨r4, p4 + l, none⟩) hr4).trans (hs4 l (by omega))
                        have hj0 : (0 : Int) ≤ (l : Int) := by omega
                        have hj1 : (l : Int) < (N4 : Int) := by omega
                        obtain ⟨e1, e2, e3, e4⟩ := tkw k l hkm (by omega)
                        have hwz := HWL.out.size
                        have hbz3 : b3 < wl.heap.size := Nat.lt_of_lt_of_le HBB3.out hwz
                        have hbz4 : b4 < wl.heap.size := Nat.lt_of_lt_of_le HBB4.out hwz
                        have hrz3 : r3 < wl.heap.size := Nat.lt_of_lt_of_le hr3 hwz
                        have hrz4 : r4 < wl.heap.size := Nat.lt_of_lt_of_le hr4 hwz
                        have hwp := HWP.out.size
                        have hn3 : b3 ≠ wp.heap.size := by have := HBB3.out; omega
                        have hn4' : b4 ≠ wp.heap.size := by have := HBB4.out; omega
                        have hn5 : r3 ≠ wp.heap.size := by omega
                        have hn6 : r4 ≠ wp.heap.size := by omega
                        have hg := HE.out.lt
                        have hth := HE.out.there hll
                        clear hs3 hs4 hr3 hr4 hwz hwp
                        go_upto_region 39 with fail
                        go_region_held3 (fun W => W.cell? ⟨b3, o3 + k, none⟩ = some (.slice (some ⟨r3, p3, none⟩) N4 C3) ∧ W.cell? ⟨b4, o4 + k, none⟩ = some (.slice (some ⟨r4, p4, none⟩) N4 C4) ∧ W.cell? ⟨r3, p3 + l, none⟩ = some (.string (S3 l)) ∧ W.cell? ⟨r4, p4 + l, none⟩ = some (.string (S4 l)) ∧ W.there wp.heap.size (l * 10) 10 ∧ wl.heap.size ≤ W.heap.size)
                          (first | with_reducible exact keep4C10 hn3 hn4' hn5 hn6 (by assumption) | with_reducible exact keep4B hbz3 hbz4 hrz3 hrz4 hg hb1 (by assumption) | with_reducible exact keep4B hbz3 hbz4 hrz3 hrz4 hg hb2 (by assumption) | exact ⟨y3, y4, y5, y6, hth, Nat.le_refl _⟩)
                          (first | (go_at_call 11; refine (newStr _ _ _ _).mono ?_; rintro e w1 ⟨rfl, hb1⟩) | (go_at_call 14; refine (newEnt _ _ _ _ _).mono ?_; rintro e w2 ⟨rfl, hb2⟩; obtain ⟨x0, x1, x2, x3, x4, x5, x6, x7, x8, x9, c0, c1, c2, c3, c4, c5, c6, c7, c8, c9, f0, f1, f2, f3, f4, f5, f6, f7, f8, f9⟩ := tenT (keep4B hbz3 hbz4 hrz3 hrz4 hg hb2 (by assumption)).2.2.2.2.1))
                        have hbd : Below wp.heap.size wp wl.drew := below_drew HF.out
                        have hb12 : Below wp.heap.size wp w2 := (hbd.trans (hb1.mono hbd.size)).trans (hb2.mono (Nat.le_trans hbd.size hb1.size))
                        have hE2 : Ens w2 wp.heap.size N4 l S3 S4 (tk k) := (HE.out.drew.below hb1 hg).below hb2 (Nat.lt_of_lt_of_le hg hb1.size)
                        have HE3 := Lib.hid hE2.store
                        have HF3 : Hid (Below wp.heap.size wp (w2.setCells wp.heap.size (l * 10) (entL (S3 l) (S4 l) (tk k l)))) := Lib.hid (below_setCells _ (Nat.le_refl _) _ _ _ hb12)
                        clear hE2 hb12 hbd hb1 hb2 hth c0 c1 c2 c3 c4 c5 c6 c7 c8 c9 f0 f1 f2 f3 f4 f5 f6 f7 f8 f9 y3 y4 y5 y6 e1 e2 e3 e4 hg hn3 hn4' hn5 hn6 hbz3 hbz4 hrz3 hrz4
                        go_wp2_with fail
                        go_roundw
                        case rel =>
                          rw [chain10]
                          exact ⟨l + 1, by omega, by go_num, HF3, HE3⟩
                        case measure => simp [intOf]; omega
                      · have z3 : decide (l < N4) = false := decide_eq_false (by omega)
                        have hEE : Ent wl wp.heap.size 0 N4 S3 S4 (tk k) := Ens_full HE.out (by omega)
                        have HEE := Lib.hid hEE
                        clear hEE hl hll HE
                        go_wp2_with fail
                        refine (Ex.newObj _ _ _ _).mono ?_
                        rintro e w1 ⟨rfl, hb1⟩
                        have hbp : Below wp.heap.size wp w1 := HF.out.trans (hb1.mono HF.out.size)
                        have hI2 := HI.out.below hbp
                        have hne : wp.heap.size ≠ wm.heap.size := by have := HI.out.lt; omega
                        have hent : Ent w1 wp.heap.size 0 N4 S3 S4 (tk k) := HEE.out.below hb1
                        have hs := hI2.store (g' := wp.heap.size) hne (by rw [Lx_at HXX3.out, Kx_at HXX3.out, Kx_at HXX4.out]; exact hent)
                        rw [Lx_at HXX3.out] at hs
                        have hbm : Below wm.heap.size wm w1 := HB.out.trans (hbp.mono HB.out.size)
                        have HI3 := Lib.hid hs
                        have HB3 : Hid (Below wm.heap.size wm (w1.setCells wm.heap.size (k * 7) (itemL wp.heap.size N4))) := Lib.hid (below_setCells _ (Nat.le_refl _) _ _ _ hbm)
                        obtain ⟨x0, x1, x2, x3, x4, x5, x6, c0, c1, c2, c3, c4, c5, c6, f0, f1, f2, f3, f4, f5, f6⟩ := sevenT (hI2.there hlt)
                        clear hs hent hI2 hbp hbm hb1 z3 y3 y4 HEE HF
                        go_wp2_with fail
                        go_roundw
                        case rel =>
                          rw [chain7]
                          exact ⟨k + 1, by omega, by go_num, HB3, HI3⟩
                        case measure => simp [intOf]; omega
                  · have z3 : decide (k < n4) = false := decide_eq_false (by omega)
                    have hArr := Its_full HI.out (by omega)
                    obtain ⟨h, hA⟩ := hArr
                    have HX : Hid (∀ W, Below wp.heap.size wp W → Calls Try.prog 18 #[.string a0, .string a1, arrV wm.heap.size 0 n4 n4, .map (some wo.heap.size)] W (AAns (inS S2 n2) a0 a1 n4 (Lx X3) (Kx X3) (Kx X4) tk W)) := Lib.hid fun W hb => rev18 a0 a1 wm.heap.size 0 n4 n4 h (Lx X3) (Kx X3) (Kx X4) tk (.map (some wo.heap.size)) (inS S2 n2) W (hA.below hb) (by omega) (fun i hi => by have := (HL3.out i hi).1; unfold Lx; omega) (HC.out.below (HB.out.trans (hb.mono HB.out.size))) (fun i hi j hj => by
                      obtain ⟨P3, N3, C3, S3, hx3, hN3, hC3, hR3, hS3⟩ := HX3.out.at hi
                      rw [Kx_at hx3]
                      rw [Lx_at hx3] at hj
                      exact hS3 j hj)
                    clear hA hk hlt HI HC
                    go_wp2_with fail
                    refine (Ex.newArr _ _ _ _).mono ?_
                    rintro e w1 ⟨rfl, hb1⟩
                    clear z3
                    go_wp2_with fail
                    have hbx : Below wp.heap.size wp (w1.alloc (.cells #[.string ⟨#[]⟩, .slice (some ⟨wm.heap.size, 0, none⟩) n4 n4, .slice none 0 0, .slice none 0 0, .int .i32 0, .int .i32 0, .int .u8 2] 36)) := hb1.alloc hb1.size _
                    have HBX := Lib.hid hbx
                    clear hbx hb1
                    refine (HX.out _ HBX.out).mono ?_
                    intro e w2 hans
                    obtain ⟨ok, sub, ts, tl, rfl, hR, hb2⟩ := res_of hans
                    have HRS : Hid (Res (Hx S2 n2 a0 X3 X4) n4 (Lx X3) a1 ok sub ts tl) := Lib.hid hR
                    have hbq : Below w.heap.size w w2 := HWP.out.trans ((HBX.out.trans (hb2.mono HBX.out.size)).mono HWP.out.size)
                    have HW2 : Hid (Below w.heap.size w (w2.alloc (.cells #[.int .i32 ts, .int .i32 tl] 33))) := Lib.hid (hbq.alloc hbq.size _)
                    clear hans hR hb2 hbq HBX HX HWP HB HWM
                    go_wp2_with fail
                    go_loop [25, 26, 27] (fun fd wt i => ∃ (f : Bool) (x : Int) (k : Nat), k ≤ n4 ∧ fd = .bool f ∧ wt = .int .i32 x ∧ i = .int .i64 k ∧ Hid (Wnt (Hx S2 n2 a0 X3 X4) n4 (Lx X3) f x k)) (fun _ _ i => n4 - (intOf i).toNat)
                    case atStart => exact ⟨false, 0, 0, by omega, rfl, rfl, rfl, Lib.hid (Wnt.zero _ _ _)⟩
                    case round =>
                      obtain ⟨f, x, k, hk, rfl, rfl, rfl, HV⟩ := hrel
                      cases f
                      · by_cases hlt : k < n4
                        · obtain ⟨b3, o3, rfl, hbb3, hc3'⟩ := HA3.out (by omega)
                          obtain ⟨b4, o4, rfl, hbb4, hc4'⟩ := HA4.out (by omega)
                          obtain ⟨P3, N3, C3, S3, hx3, hN3, hC3, hR3, hS3⟩ := HX3.out.at hlt
                          obtain ⟨P4, N4, C4, S4, hx4, hN4, hC4, hR4, hS4⟩ := HX4.out.at hlt
                          have hL3 := HL3.out k hlt
                          rw [hx3, hx4] at hL3
                          obtain ⟨q1, q2⟩ := hL3
                          simp only at q1 q2
                          subst q2
                          have hz3 := hc3' k (by omega)
                          have hz4 := hc4' k (by omega)
                          simp only [hx3] at hz3
                          simp only [hx4] at hz4
                          have y3 := (HW2.out.cell (p := ⟨b3, o3 + k, none⟩) hbb3).trans hz3
                          have y4 := (HW2.out.cell (p := ⟨b4, o4 + k, none⟩) hbb4).trans hz4
                          have HR3 := Lib.hid hR3
                          have HR4 := Lib.hid hR4
                          have HHX : Hid (∀ l, Hx S2 n2 a0 X3 X4 k l = ((((S3 l).toList == [100, 101, 102, 97, 117, 108, 116]) || inS S2 n2 (S3 l)) && ((S4 l).toList == a0.toList))) := Lib.hid fun l => Hx_at hx3 hx4
                          have HLX := Lib.hid (Lx_at hx3)
                          have hi0 : (0 : Int) ≤ (k : Int) := by omega
                          have hi1 : (k : Int) < (n4 : Int) := by omega
                          have hkm : k < 4096 := by omega
                          clear hc3' hc4' hx3 hx4 hR3 hR4 hS3 hS4 hC3 hC4 hN3 hN4 hz3 hz4 hbb3 hbb4
                          go_wp2_with fail
                          go_loop [25, 26, 28] (fun fd wt i => ∃ l : Nat, l ≤ N4 ∧ fd = .bool false ∧ wt = .int .i32 x ∧ i = .int .i64 l ∧ Hid (∀ j, j < l → Hx S2 n2 a0 X3 X4 k j = false)) (fun _ _ i => N4 - (intOf i).toNat)
                          case atStart => exact ⟨0, by omega, rfl, rfl, rfl, Lib.hid fun j hj => by omega⟩
                          case round =>
                            obtain ⟨l, hl, rfl, rfl, rfl, HN⟩ := hrel
                            by_cases hll : l < N4
                            · obtain ⟨r3, p3, rfl, hr3, hs3⟩ := HR3.out (by omega)
                              obtain ⟨r4, p4, rfl, hr4, hs4⟩ := HR4.out (by omega)
                              have y5 := (HW2.out.cell (p := ⟨r3, p3 + l, none⟩) hr3).trans (hs3 l (by omega))
                              have y6 := (HW2.out.cell (p := ⟨r4, p4 + l, none⟩) hr4).trans (hs4 l (by omega))
                              have hj0 : (0 : Int) ≤ (l : Int) := by omega
                              have hj1 : (l : Int) < (N4 : Int) := by omega
                              obtain ⟨e1, e2, e3, e4⟩ := tkw k l hkm (by omega)
                              have HHL := Lib.hid (HHX.out l)
                              clear hs3 hs4 hr3 hr4
                              go_upto_region 52 with fail
                              go_cut [263] from 246 to 263 (fun c wx => c = .bool (Hx S2 n2 a0 X3 X4 k l) ∧ wx = w2.alloc (.cells #[.int .i32 ts, .int .i32 tl] 33))
                              case first =>
                                clear e1 e2 e3 e4
                                cases t1 : ((S3 l).toList == [100, 101, 102, 97, 117, 108, 116])
                                · go_wp2_with fail
                                  refine (in19 A2 n2 c2 S2 (S3 l) _ ((HA2.out.below HW2.out).mono HW2.out.size) (by omega)).mono ?_
                                  rintro e _ ⟨rfl, rfl⟩
                                  cases t2 : inS S2 n2 (S3 l)
                                  · go_wp2_with fail
                                    go_meet
                                    exact ⟨by rw [HHL.out, t1, t2]; rfl, rfl⟩
                                  · cases t3 : ((S4 l).toList == a0.toList)
                                    · go_wp2_with fail
                                      go_meet
                                      exact ⟨by rw [HHL.out, t1, t2, t3]; rfl, rfl⟩
                                    · go_wp2_with fail
                                      go_meet
                                      exact ⟨by rw [HHL.out, t1, t2, t3]; rfl, rfl⟩
                                · cases t3 : ((S4 l).toList == a0.toList)
                                  · go_wp2_with fail
                                    go_meet
                                    exact ⟨by rw [HHL.out, t1, t3]; rfl, rfl⟩
                                  · go_wp2_with fail
                                    go_meet
                                    exact ⟨by rw [HHL.out, t1, t3]; rfl, rfl⟩
                              case rest =>
                                obtain ⟨rfl, rfl⟩ := hcut
                                cases t4 : Hx S2 n2 a0 X3 X4 k l
                                · have HN2 : Hid (∀ j, j < l + 1 → Hx S2 n2 a0 X3 X4 k j = false) := Lib.hid fun j hj => by
                                    by_cases e : j = l
                                    · rw [e]; exact t4
                                    · exact HN.out j (by omega)
                                  clear e1 e2 e3 e4
                                  go_wp2_with fail
                                  go_round
                                  case rel => exact ⟨l + 1, by omega, rfl, rfl, by go_num, HN2⟩
                                  case measure => simp [intOf]; omega
                                · have HV2 := Lib.hid (HV.out.hit hlt (by rw [HLX.out]; exact hll) HN.out t4 (k + 1))
                                  go_wp2_with fail
                                  go_round
                                  case rel => exact ⟨true, tk k l, k + 1, by omega, rfl, rfl, by go_num, HV2⟩
                                  case measure => simp [intOf]; omega
                            · have z3 : decide (l < N4) = false := decide_eq_false (by omega)
                              have HV2 := Lib.hid (HV.out.row (fun j hj => HN.out j (by rw [HLX.out] at hj; omega)))
                              have hx0 : x = 0 := HV.out.elim (fun h => by cases h.1) (fun h => h.2.1)
                              subst hx0
                              clear hl hll
                              go_wp2_with fail
                              go_round
                              case rel => exact ⟨false, 0, k + 1, by omega, rfl, rfl, by go_num, HV2⟩
                              case measure => simp [intOf]; omega
                        · have z3 : decide (k < n4) = false := decide_eq_false (by omega)
                          have HK : Hid (n4 ≤ k) := Lib.hid (by omega)
                          clear hk hlt
                          go_wp2_with fail
                          refine (agrees20 _ _ _ _ _ _ _ _ _ (agree HRS.out HV.out (fun _ => HK.out))).mono ?_
                          rintro e _ ⟨rfl, rfl⟩
                          go_wp2_with fail
                          go_ret
                          exact ⟨rfl, HW2.out⟩
                      · by_cases hlt : k < n4
                        · go_wp2_with fail
                          refine (agrees20 _ _ _ _ _ _ _ _ _ (agree HRS.out HV.out (fun h => by cases h))).mono ?_
                          rintro e _ ⟨rfl, rfl⟩
                          go_wp2_with fail
                          go_ret
                          exact ⟨rfl, HW2.out⟩
                        · have z3 : decide (k < n4) = false := decide_eq_false (by omega)
                          clear hk hlt
                          go_wp2_with fail
                          refine (agrees20 _ _ _ _ _ _ _ _ _ (agree HRS.out HV.out (fun h => by cases h))).mono ?_
                          rintro e _ ⟨rfl, rfl⟩
                          go_wp2_with fail
                          go_ret
                          exact ⟨rfl, HW2.out⟩
  · clear HA2 HA3 HA4 HS2 HX3 HX4 HB2 HB3 HB4 hn2 hn3 hn4 hc2 hc3 hc4
    by_cases g0 : a0.size ≤ 1048576
    · have u0 : decide ((1048576 : Int) < (a0.size : Int)) = false := decide_eq_false (by omega)
      by_cases g1 : a1.size ≤ 1048576
      · have u1 : decide ((1048576 : Int) < (a1.size : Int)) = false := decide_eq_false (by omega)
        by_cases g2 : n2 ≤ 4096
        · have u2 : decide ((4096 : Int) < (n2 : Int)) = false := decide_eq_false (by omega)
          by_cases g3 : n3 ≤ 4096
          · have u3 : decide ((4096 : Int) < (n3 : Int)) = false := decide_eq_false (by omega)
            have u4 : ((n4 : Int) != (n3 : Int)) = true := by rw [bne_iff_ne]; intro e; exact g ⟨g0, g1, g2, g3, by omega⟩
            clear g g0 g1 g2 g3
            go_wp2_with fail
            go_ret
            exact ⟨rfl, by go_grown⟩
          · have u3 : decide ((4096 : Int) < (n3 : Int)) = true := decide_eq_true (by omega)
            clear g g0 g1 g2 g3
            go_wp2_with fail
            go_ret
            exact ⟨rfl, by go_grown⟩
        · have u2 : decide ((4096 : Int) < (n2 : Int)) = true := decide_eq_true (by omega)
          clear g g0 g1 g2
          go_wp2_with fail
          go_ret
          exact ⟨rfl, by go_grown⟩
      · have u1 : decide ((1048576 : Int) < (a1.size : Int)) = true := decide_eq_true (by omega)
        clear g g0 g1
        go_wp2_with fail
        go_ret
        exact ⟨rfl, by go_grown⟩
    · have u0 : decide ((1048576 : Int) < (a0.size : Int)) = true := decide_eq_true (by omega)
      clear g g0
      go_wp2_with fail
      go_ret
      exact ⟨rfl, by go_grown⟩
end Go.Proofs.Ytjfegbkbhbhcoaa.fnTargetReverseConditionArrayModel
