/-
  Proved: what validateLoaders returns of a nil map, and what its wrapper returns with the number of errors logged. Conditions: those that each
  theorem names as its hypotheses, and no others.
-/
import Derived.Test.YtobpghjknciobaeFmtMq
namespace Go.Proofs.YtobpghjknciobaeFmt.Mr
open Go.RowKit Go.PlainAid Mem Ho Ml Mp Mq Pg Lg Go.Maps Go.WideMaps Go.WideShapes Go.Extern.Stop Go.Stop Go.Extern
set_option linter.unusedVariables false
set_option linter.unusedSimpArgs false
def ValN (w : World) (e : Ending) (w' : World) : Prop := ∃ r, e = .returned (.map (some r)) ∧ w.heap.size ≤ r ∧ Om w' r 13 base ∧ Below w.heap.size w w'
set_option maxRecDepth 100000 in
theorem val10n (k mu he ms : Nat) (w : World) : Calls Tryf.prog 10 #[logV k mu he ms, .map none] w (ValN w) := by
  unfold logV
  go_enter Tryf.func10, Tryf.ntmps10
  go_upto_region 1 with fail
  generalize hW : w.alloc _ = W
  have hb0 : Below w.heap.size w W := by rw [← hW]; exact (Below.refl _ _).alloc (Nat.le_refl _) _
  have HB0 := Lib.hid hb0
  clear hW hb0
  go_wp2_with fail
  refine (def18 W).mono ?_
  rintro e w2 ⟨r, rfl, hr, hO, hb2⟩
  have hrl := hO.lt
  have HO := Lib.hid hO
  have HB2 := Lib.hid (HB0.out.trans (hb2.mono HB0.out.size))
  have hR := Nat.le_trans HB0.out.size hr
  have r1 := run_range_nilMap (P := Tryf.prog) w2 27 _ _ Tryf.underlying27
  have r2 := fun ty => run_next_nilMap (P := Tryf.prog) w2 ty 0 0 #[]
  clear hO hb2 hr
  go_wp2_with fail
  refine wp_loop_rounds 1 ?_
  rw [rounds_succ]
  go_wp2
  go_ret
  exact ⟨r, rfl, hR, HO.out.alloc _, HB2.out.alloc HB2.out.size _⟩
def ZzN (w : World) (e : Ending) (w' : World) : Prop := ∃ r, e = .returned (.tuple #[.map (some r), .int .i64 0]) ∧ w.heap.size ≤ r ∧ Om w' r 13 base ∧ Below w.heap.size w w'
set_option maxRecDepth 100000 in
set_option maxHeartbeats 1000000 in
theorem zz6n (w : World) : Calls Tryf.prog 6 #[.map none] w (ZzN w) := by
  go_enter Tryf.func6, Tryf.ntmps6
  go_wp2_with fail
  refine (new7 w).mono ?_
  rintro e w1 ⟨k, mu, he, ms, rfl, hL, hb⟩
  have HL := Lib.hid hL
  have HB := Lib.hid hb
  clear hL hb
  unfold logV
  go_upto_region 2 with fail
  generalize hW2 : w1.alloc _ = W2
  have hb2 : Below w1.heap.size w1 W2 := by rw [← hW2]; exact (Below.refl _ _).alloc (Nat.le_refl _) _
  have oL : Own W2 w1.heap.size 44 #[.func (.func 11) #[] #[.pointer (some ⟨k, 0, none⟩), .pointer (some ⟨mu, 0, none⟩), .pointer (some ⟨he, 0, none⟩), .pointer (some ⟨ms, 0, none⟩)], .func (.func 14) #[] #[.pointer (some ⟨mu, 0, none⟩), .pointer (some ⟨he, 0, none⟩)], .func (.func 15) #[] #[.pointer (some ⟨mu, 0, none⟩), .pointer (some ⟨ms, 0, none⟩)], .func (.func 16) #[] #[.pointer (some ⟨mu, 0, none⟩), .pointer (some ⟨ms, 0, none⟩)], .int .i8 3, .map none] := by rw [← hW2]; exact Own.new _ _ _
  have HOL := Lib.hid oL
  have HL2 := Lib.hid (HL.out.below hb2)
  have HB2 := Lib.hid (HB.out.trans (hb2.mono HB.out.size))
  have l0 : W2.cell? ⟨w1.heap.size, 0, none⟩ = some (.func (.func 11) #[] #[.pointer (some ⟨k, 0, none⟩), .pointer (some ⟨mu, 0, none⟩), .pointer (some ⟨he, 0, none⟩), .pointer (some ⟨ms, 0, none⟩)]) := (oL.cell 0).trans rfl
  have l1 : W2.cell? ⟨w1.heap.size, 1, none⟩ = some (.func (.func 14) #[] #[.pointer (some ⟨mu, 0, none⟩), .pointer (some ⟨he, 0, none⟩)]) := (oL.cell 1).trans rfl
  have l2 : W2.cell? ⟨w1.heap.size, 2, none⟩ = some (.func (.func 15) #[] #[.pointer (some ⟨mu, 0, none⟩), .pointer (some ⟨ms, 0, none⟩)]) := (oL.cell 2).trans rfl
  have l3 : W2.cell? ⟨w1.heap.size, 3, none⟩ = some (.func (.func 16) #[] #[.pointer (some ⟨mu, 0, none⟩), .pointer (some ⟨ms, 0, none⟩)]) := (oL.cell 3).trans rfl
  have l4 : W2.cell? ⟨w1.heap.size, 4, none⟩ = some (.int .i8 3) := (oL.cell 4).trans rfl
  have l5 : W2.cell? ⟨w1.heap.size, 5, none⟩ = some (.map none) := (oL.cell 5).trans rfl
  clear hW2 hb2 oL
  go_wp2_with fail
  refine (val10n k mu he ms W2).mono ?_
  rintro e w3 ⟨r, rfl, hr, hO, hb3⟩
  have oL3 := HOL.out.below hb3 HOL.out.lt
  have l3' : w3.cell? ⟨w1.heap.size, 3, none⟩ = some (.func (.func 16) #[] #[.pointer (some ⟨mu, 0, none⟩), .pointer (some ⟨ms, 0, none⟩)]) := (oL3.cell 3).trans rfl
  have HL3 := Lib.hid (HL2.out.below hb3)
  have HB3 := Lib.hid (HB2.out.trans (hb3.mono HB2.out.size))
  have HO := Lib.hid hO
  have hR := Nat.le_trans HB2.out.size hr
  clear hb3 oL3 hO hr l0 l1 l2 l3 l4 l5
  go_wp2_with fail
  refine (done16 k mu he ms w.heap.size 0 _ [] w3 HL3.out ⟨rfl, fun i hi => absurd hi (by omega)⟩ (by omega)).mono ?_
  rintro e w6 ⟨rfl, hL6, hK6⟩
  have HO6 := Lib.hid (om_same HO.out (hK6.heap r HO.out.lt (om_not HO.out)))
  have HB6 := Lib.hid (HB3.out.trans hK6.below)
  clear hL6 hK6 l3'
  go_wp2
  go_returns
  exact ⟨r, rfl, hR, HO6.out, HB6.out⟩
def Zz (D0 : DV) (w : World) (e : Ending) (w' : World) : Prop := ∃ r E, ∃ m : Nat, e = .returned (.tuple #[.map (some r), .int .i64 m]) ∧ w.heap.size ≤ r ∧ Om w' r 1048576 E ∧ Fin base D0 E badL m ∧ Below w.heap.size w w'
set_option maxRecDepth 100000 in
set_option maxHeartbeats 1000000 in
theorem zz6 (F : Go.Stop.Interp) (D0 : DV) (b nb : Nat) (w : World) (hF : F.answers w.tape) (hM : Om w b nb D0) (hG : GoodIn D0) (hnb : nb ≤ 1000000) : Calls Tryf.prog 6 #[.map (some b)] w (Zz D0 w) := by
  have HF := Lib.hid hF
  have HM := Lib.hid hM
  have HG := Lib.hid hG
  clear hF hM hG
  go_enter Tryf.func6, Tryf.ntmps6
  go_wp2_with fail
  refine (new7 w).mono ?_
  rintro e w1 ⟨k, mu, he, ms, rfl, hL, hb⟩
  have HL := Lib.hid hL
  have HB := Lib.hid hb
  clear hL hb
  unfold logV
  go_upto_region 2 with fail
  generalize hW2 : w1.alloc _ = W2
  have hb2 : Below w1.heap.size w1 W2 := by rw [← hW2]; exact (Below.refl _ _).alloc (Nat.le_refl _) _
  have oL : Own W2 w1.heap.size 44 #[.func (.func 11) #[] #[.pointer (some ⟨k, 0, none⟩), .pointer (some ⟨mu, 0, none⟩), .pointer (some ⟨he, 0, none⟩), .pointer (some ⟨ms, 0, none⟩)], .func (.func 14) #[] #[.pointer (some ⟨mu, 0, none⟩), .pointer (some ⟨he, 0, none⟩)], .func (.func 15) #[] #[.pointer (some ⟨mu, 0, none⟩), .pointer (some ⟨ms, 0, none⟩)], .func (.func 16) #[] #[.pointer (some ⟨mu, 0, none⟩), .pointer (some ⟨ms, 0, none⟩)], .int .i8 3, .map none] := by rw [← hW2]; exact Own.new _ _ _
  have HOL := Lib.hid oL
  have HL2 := Lib.hid (HL.out.below hb2)
  have HB2 := Lib.hid (HB.out.trans (hb2.mono HB.out.size))
  have HM2 := Lib.hid (om_same HM.out (HB2.out.block b HM.out.lt))
  have HF2 : Hid (F.answers W2.tape) := Lib.hid (by rw [HB2.out.tape]; exact HF.out)
  have l0 : W2.cell? ⟨w1.heap.size, 0, none⟩ = some (.func (.func 11) #[] #[.pointer (some ⟨k, 0, none⟩), .pointer (some ⟨mu, 0, none⟩), .pointer (some ⟨he, 0, none⟩), .pointer (some ⟨ms, 0, none⟩)]) := (oL.cell 0).trans rfl
  have l1 : W2.cell? ⟨w1.heap.size, 1, none⟩ = some (.func (.func 14) #[] #[.pointer (some ⟨mu, 0, none⟩), .pointer (some ⟨he, 0, none⟩)]) := (oL.cell 1).trans rfl
  have l2 : W2.cell? ⟨w1.heap.size, 2, none⟩ = some (.func (.func 15) #[] #[.pointer (some ⟨mu, 0, none⟩), .pointer (some ⟨ms, 0, none⟩)]) := (oL.cell 2).trans rfl
  have l3 : W2.cell? ⟨w1.heap.size, 3, none⟩ = some (.func (.func 16) #[] #[.pointer (some ⟨mu, 0, none⟩), .pointer (some ⟨ms, 0, none⟩)]) := (oL.cell 3).trans rfl
  have l4 : W2.cell? ⟨w1.heap.size, 4, none⟩ = some (.int .i8 3) := (oL.cell 4).trans rfl
  have l5 : W2.cell? ⟨w1.heap.size, 5, none⟩ = some (.map none) := (oL.cell 5).trans rfl
  clear hW2 hb2 oL
  go_wp2_with fail
  refine (val10 F D0 b nb k mu he ms w.heap.size W2 HF2.out HL2.out HM2.out HG.out hnb).mono ?_
  rintro e w3 ⟨r, E, m, v, xs, rfl, hr, hO, hFin, hL3, hN, hm, hb3, hK3⟩
  obtain ⟨A, c, rfl⟩ := row_form hL3.row
  have oL3 := hK3 _ _ _ HOL.out (by decide) (by decide) (by decide) (by decide)
  have l3' : w3.cell? ⟨w1.heap.size, 3, none⟩ = some (.func (.func 16) #[] #[.pointer (some ⟨mu, 0, none⟩), .pointer (some ⟨ms, 0, none⟩)]) := (oL3.cell 3).trans rfl
  have HL3 := Lib.hid hL3
  have HN := Lib.hid hN
  have HFin := Lib.hid hFin
  have HB3 := Lib.hid (HB2.out.trans hb3)
  have HO := Lib.hid hO
  have hR := Nat.le_trans HB2.out.size hr
  clear hb3 oL3 hO hr hL3 hN hFin hK3 l0 l1 l2 l3 l4 l5
  go_wp2_with fail
  refine (done16 k mu he ms w.heap.size m _ xs w3 HL3.out HN.out hm).mono ?_
  rintro e w6 ⟨rfl, hL6, hK6⟩
  have HO6 := Lib.hid (om_same HO.out (hK6.heap r HO.out.lt (om_not HO.out)))
  have HB6 := Lib.hid (HB3.out.trans hK6.below)
  clear hL6 hK6 l3'
  go_wp2
  go_returns
  exact ⟨r, E, m, rfl, hR, HO6.out, HFin.out, HB6.out⟩
end Go.Proofs.YtobpghjknciobaeFmt.Mr
