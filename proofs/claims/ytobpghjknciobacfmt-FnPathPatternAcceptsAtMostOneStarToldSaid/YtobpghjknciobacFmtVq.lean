/-
  Proved: the wrapper of the pattern test and the count of stars in the law return what the plain count of stars says. Conditions: those that each
  theorem names as its hypotheses, and no others.
-/
import Derived.Test.YtobpghjknciobacFmtVp
namespace Go.Proofs.YtobpghjknciobacFmt.Vq
open Go.RowKit Go.PlainAid Mem Ho Go.MuLone Locks Lg Vp Go.Extern.Stop Go.Stop Go.Extern
set_option linter.unusedVariables false
set_option linter.unusedSimpArgs false
def Res (s : ByteArray) (w : World) (e : Ending) (w' : World) : Prop := (∃ m : Nat, e = .returned (.tuple #[.bool (decide (stars s s.size ≤ 1)), .int .i64 m])) ∧ Below w.heap.size w w'
set_option maxRecDepth 100000 in
set_option maxHeartbeats 1000000 in
theorem zz5 (F : Go.Stop.Interp) (s : ByteArray) (w : World) (hF : F.answers w.tape) (hs : s.size ≤ 1048576) : Calls Tryf.prog 5 #[.string s] w (Res s w) := by
  have HF := Lib.hid hF
  clear hF
  go_enter Tryf.func5, Tryf.ntmps5
  go_wp2_with fail
  refine (new7 w).mono ?_
  rintro e w1 ⟨k, mu, he, ms, rfl, hL, hb⟩
  have HL := Lib.hid hL
  have HB := Lib.hid hb
  clear hL hb
  unfold logV
  go_wp2_with fail
  generalize hW2 : (w1.alloc _).alloc _ = W2
  have hb2 : Below w1.heap.size w1 W2 := by rw [← hW2]; exact ((Below.refl _ _).alloc (Nat.le_refl _) _).alloc (by simp) _
  have oL : Own W2 w1.heap.size 32 #[.func (.func 10) #[] #[.pointer (some ⟨k, 0, none⟩), .pointer (some ⟨mu, 0, none⟩), .pointer (some ⟨he, 0, none⟩), .pointer (some ⟨ms, 0, none⟩)], .func (.func 13) #[] #[.pointer (some ⟨mu, 0, none⟩), .pointer (some ⟨he, 0, none⟩)], .func (.func 14) #[] #[.pointer (some ⟨mu, 0, none⟩), .pointer (some ⟨ms, 0, none⟩)], .func (.func 15) #[] #[.pointer (some ⟨mu, 0, none⟩), .pointer (some ⟨ms, 0, none⟩)], .int .i8 3, .map none] := by rw [← hW2]; exact (own_at rfl _ _).alloc _
  have oS : Own W2 (w1.heap.size + 1) 44 srcC := by rw [← hW2]; exact own_at (by simp) _ _
  have HOL := Lib.hid oL
  have HOS := Lib.hid oS
  have HL2 := Lib.hid (HL.out.below hb2)
  have HB2 := Lib.hid (HB.out.trans (hb2.mono HB.out.size))
  clear hW2 hb2 oL oS HL
  refine (trk8 (w1.heap.size + 1) W2 HOS.out).mono ?_
  rintro e w3 ⟨rfl, hb3⟩
  have HB3 := Lib.hid hb3
  clear hb3
  unfold trkC
  go_upto_region 4 with fail
  generalize hW4 : w3.alloc _ = W4
  have hb4 : Below W2.heap.size W2 W4 := by rw [← hW4]; exact HB3.out.alloc HB3.out.size _
  have oT : Own W4 w3.heap.size 46 (trkC false) := by rw [← hW4]; exact own_at rfl _ _
  have oL := HOL.out.below hb4 HOL.out.lt
  have HOT := Lib.hid oT
  have HOL4 := Lib.hid oL
  have HOS4 := Lib.hid (HOS.out.below hb4 HOS.out.lt)
  have HL4 := Lib.hid (HL2.out.below hb4)
  have HB4 := Lib.hid (HB2.out.trans (hb4.mono HB2.out.size))
  have HF4 : Hid (F.answers W4.tape) := Lib.hid (by rw [HB4.out.tape]; exact HF.out)
  have hlo : w.heap.size ≤ w3.heap.size := Nat.le_trans HB2.out.size HB3.out.size
  have l0 : W4.cell? ⟨w1.heap.size, 0, none⟩ = some (.func (.func 10) #[] #[.pointer (some ⟨k, 0, none⟩), .pointer (some ⟨mu, 0, none⟩), .pointer (some ⟨he, 0, none⟩), .pointer (some ⟨ms, 0, none⟩)]) := (oL.cell 0).trans rfl
  have l1 : W4.cell? ⟨w1.heap.size, 1, none⟩ = some (.func (.func 13) #[] #[.pointer (some ⟨mu, 0, none⟩), .pointer (some ⟨he, 0, none⟩)]) := (oL.cell 1).trans rfl
  have l2 : W4.cell? ⟨w1.heap.size, 2, none⟩ = some (.func (.func 14) #[] #[.pointer (some ⟨mu, 0, none⟩), .pointer (some ⟨ms, 0, none⟩)]) := (oL.cell 2).trans rfl
  have l3 : W4.cell? ⟨w1.heap.size, 3, none⟩ = some (.func (.func 15) #[] #[.pointer (some ⟨mu, 0, none⟩), .pointer (some ⟨ms, 0, none⟩)]) := (oL.cell 3).trans rfl
  have l4 : W4.cell? ⟨w1.heap.size, 4, none⟩ = some (.int .i8 3) := (oL.cell 4).trans rfl
  have l5 : W4.cell? ⟨w1.heap.size, 5, none⟩ = some (.map none) := (oL.cell 5).trans rfl
  clear hW4 hb4 oT oL
  go_wp2_with fail
  refine (valid9 F s (w1.heap.size + 1) w3.heap.size w.heap.size k mu he ms W4 HF4.out hs HL4.out HOS4.out ⟨_, HOT.out⟩ hlo).mono ?_
  rintro e w5 ⟨rfl, m, v, xs, hm, hL5, hB5, hK5⟩
  have oL5 := hK5 _ _ _ HOL4.out (by decide) (by decide) (by decide) (by decide) (by decide)
  have l3' : w5.cell? ⟨w1.heap.size, 3, none⟩ = some (.func (.func 15) #[] #[.pointer (some ⟨mu, 0, none⟩), .pointer (some ⟨ms, 0, none⟩)]) := (oL5.cell 3).trans rfl
  have HL5 := Lib.hid hL5
  have HB5 := Lib.hid (HB4.out.trans hB5)
  clear hL5 hB5 hK5 oL5 l0 l1 l2 l3 l4 l5
  obtain ⟨A, c, rfl⟩ := row_form HL5.out.row
  go_wp2_with fail
  refine (done15 k mu he ms w.heap.size m _ xs w5 HL5.out hm).mono ?_
  rintro e w6 ⟨rfl, hL6, hK6⟩
  have HB6 := Lib.hid (HB5.out.trans hK6.below)
  clear hL6 hK6 l3'
  go_wp2
  go_returns
  exact ⟨⟨m, rfl⟩, HB6.out⟩
theorem stars6 (s : ByteArray) (w : World) (hs : s.size ≤ 1048576) : Calls Tryf.prog 6 #[.string s] w fun e w' => e = .returned (.bool (decide (stars s s.size ≤ 1))) ∧ w = w' := by
  have hgb := get_bt s
  go_enter Tryf.func6, Tryf.ntmps6
  go_wp2
  go_loop [3, 4] (fun x i => ∃ k : Nat, k ≤ s.size ∧ i = .int .i64 k ∧ x = .int .i64 (-1) ∧ stars s k = 0) (fun _ i => s.size - (intOf i).toNat)
  case atStart => exact ⟨0, Nat.zero_le _, rfl, rfl, rfl⟩
  case round =>
    obtain ⟨k, hk, rfl, rfl, h0⟩ := hrel
    by_cases hlt : k < s.size
    · cases hst : (bt s k == 42)
      · go_wp2
        go_round
        case rel => exact ⟨k + 1, by omega, by go_num, rfl, by rw [stars_no hst]; exact h0⟩
        case measure => simp [intOf]; omega
      · have hs1 : stars s (k + 1) = 1 := by rw [stars_yes hst, h0]
        have z0 : decide ((k : Int) < 0) = false := decide_eq_false (by omega)
        go_wp2
        go_loop [5] (fun i => ∃ j : Nat, j ≤ s.size ∧ i = .int .i64 j ∧ stars s j = 1) (fun i => s.size - (intOf i).toNat)
        case atStart => exact ⟨k + 1, hlt, by go_num, hs1⟩
        case round =>
          obtain ⟨j, hj, rfl, hj1⟩ := hrel
          by_cases hjl : j < s.size
          · cases hjt : (bt s j == 42)
            · go_wp2
              go_round
              case rel => exact ⟨j + 1, by omega, by go_num, by rw [stars_no hjt]; exact hj1⟩
              case measure => simp [intOf]; omega
            · have hno : decide (stars s s.size ≤ 1) = false := decide_eq_false (by have := stars_mono s (show j + 1 ≤ s.size from hjl); rw [stars_yes hjt] at this; omega)
              go_wp2
              go_ret
              exact ⟨rfl, rfl⟩
          · obtain rfl : s.size = j := by omega
            have hyes : decide (stars s s.size ≤ 1) = true := decide_eq_true (by omega)
            have z1 : decide ((s.size : Int) < s.size) = false := decide_eq_false (by omega)
            go_wp2
            go_ret
            exact ⟨rfl, rfl⟩
    · obtain rfl : s.size = k := by omega
      have hyes : decide (stars s s.size ≤ 1) = true := decide_eq_true (by omega)
      have z1 : decide ((s.size : Int) < s.size) = false := decide_eq_false (by omega)
      go_wp2
      go_ret
      exact ⟨rfl, rfl⟩
end Go.Proofs.YtobpghjknciobacFmt.Vq
