/-
  Proved: the wrapper of the pattern test returns its answer, the number of messages logged and whether the tracker was made. Conditions: those that
  each theorem names as its hypotheses, and no others.
-/
import Derived.Test.YtobpghjknciobadFmtVp
namespace Go.Proofs.YtobpghjknciobadFmt.Vq
open Go.RowKit Go.PlainAid Mem Ho Go.MuLone Locks Lg Vp Go.Extern.Stop Go.Stop Go.Extern
set_option linter.unusedVariables false
set_option linter.unusedSimpArgs false
def Res (w : World) (e : Ending) (w' : World) : Prop := ∃ (b : Bool) (m : Nat) (tr : Option Addr), e = .returned (.tuple #[.bool b, .int .i64 m, .pointer tr]) ∧ ((b = true ∧ m = 0 ∧ tr = none) ∨ (b = false ∧ m = 1 ∧ ∃ a, tr = some a)) ∧ Below w.heap.size w w'
set_option maxRecDepth 100000 in
set_option maxHeartbeats 1000000 in
theorem zz5 (F : Go.Stop.Interp) (s : ByteArray) (w : World) (hF : F.answers w.tape) (hs : s.size ≤ 1048576) : Calls Tryf.prog 5 #[.string s] w (Res w) := by
  have HF := Lib.hid hF
  clear hF
  go_enter Tryf.func5, Tryf.ntmps5
  go_wp2_with fail
  refine (new7 w).mono ?_
  rintro e w1 ⟨k, mu, he, ms, rfl, hL, hb⟩
  have HL := Lib.hid hL
  have HB := Lib.hid hb
  clear hL hb
  unfold logV
  go_upto_region 4 with fail
  generalize hW4 : ((w1.alloc _).alloc _).alloc _ = W4
  have hb4 : Below w1.heap.size w1 W4 := by rw [← hW4]; exact (((Below.refl _ _).alloc (Nat.le_refl _) _).alloc (by simp) _).alloc (by simp; omega) _
  have oL : Own W4 w1.heap.size 33 #[.func (.func 8) #[] #[.pointer (some ⟨k, 0, none⟩), .pointer (some ⟨mu, 0, none⟩), .pointer (some ⟨he, 0, none⟩), .pointer (some ⟨ms, 0, none⟩)], .func (.func 11) #[] #[.pointer (some ⟨mu, 0, none⟩), .pointer (some ⟨he, 0, none⟩)], .func (.func 12) #[] #[.pointer (some ⟨mu, 0, none⟩), .pointer (some ⟨ms, 0, none⟩)], .func (.func 13) #[] #[.pointer (some ⟨mu, 0, none⟩), .pointer (some ⟨ms, 0, none⟩)], .int .i8 3, .map none] := by rw [← hW4]; exact ((own_at rfl _ _).alloc _).alloc _
  have oS : Own W4 (w1.heap.size + 1) 45 srcC := by rw [← hW4]; exact (own_at (by simp) _ _).alloc _
  have oT : Own W4 (w1.heap.size + 1 + 1) 23 #[.pointer none] := by rw [← hW4]; exact own_at (by simp) _ _
  have HOL4 := Lib.hid oL
  have HOS4 := Lib.hid oS
  have HOT4 := Lib.hid oT
  have HL4 := Lib.hid (HL.out.below hb4)
  have HB4 := Lib.hid (HB.out.trans (hb4.mono HB.out.size))
  have HF4 : Hid (F.answers W4.tape) := Lib.hid (by rw [HB4.out.tape]; exact HF.out)
  have hlo : w.heap.size ≤ w1.heap.size + 1 + 1 := Nat.le_trans HB.out.size (by omega)
  have l0 : W4.cell? ⟨w1.heap.size, 0, none⟩ = some (.func (.func 8) #[] #[.pointer (some ⟨k, 0, none⟩), .pointer (some ⟨mu, 0, none⟩), .pointer (some ⟨he, 0, none⟩), .pointer (some ⟨ms, 0, none⟩)]) := (oL.cell 0).trans rfl
  have l1 : W4.cell? ⟨w1.heap.size, 1, none⟩ = some (.func (.func 11) #[] #[.pointer (some ⟨mu, 0, none⟩), .pointer (some ⟨he, 0, none⟩)]) := (oL.cell 1).trans rfl
  have l2 : W4.cell? ⟨w1.heap.size, 2, none⟩ = some (.func (.func 12) #[] #[.pointer (some ⟨mu, 0, none⟩), .pointer (some ⟨ms, 0, none⟩)]) := (oL.cell 2).trans rfl
  have l3 : W4.cell? ⟨w1.heap.size, 3, none⟩ = some (.func (.func 13) #[] #[.pointer (some ⟨mu, 0, none⟩), .pointer (some ⟨ms, 0, none⟩)]) := (oL.cell 3).trans rfl
  have l4 : W4.cell? ⟨w1.heap.size, 4, none⟩ = some (.int .i8 3) := (oL.cell 4).trans rfl
  have l5 : W4.cell? ⟨w1.heap.size, 5, none⟩ = some (.map none) := (oL.cell 5).trans rfl
  clear hW4 hb4 oT oL oS HL HB
  go_wp2_with fail
  refine (valid7 F s (w1.heap.size + 1) (w1.heap.size + 1 + 1) w.heap.size k mu he ms W4 HF4.out hs HL4.out HOS4.out HOT4.out hlo).mono ?_
  rintro e w5 ⟨b, m, v, xs, tr, rfl, hL5, hB5, hT5, hc, hK5⟩
  have hm : m ≤ 1 := by rcases hc with ⟨_, rfl, _⟩ | ⟨_, rfl, _⟩ <;> omega
  have oL5 := hK5 _ _ _ HOL4.out (by decide) (by decide) (by decide) (by decide) (by decide) (by decide)
  have HOL5 := Lib.hid oL5
  have HOT5 := Lib.hid hT5
  have HL5 := Lib.hid hL5
  have HB5 := Lib.hid (HB4.out.trans hB5)
  have HC := Lib.hid hc
  clear hL5 hB5 hK5 oL5 hT5 hc l0 l1 l2 l3 l4 l5
  obtain ⟨A, c, rfl⟩ := row_form HL5.out.row
  have hS : ∀ V, Own V w1.heap.size 33 #[.func (.func 8) #[] #[.pointer (some ⟨k, 0, none⟩), .pointer (some ⟨mu, 0, none⟩), .pointer (some ⟨he, 0, none⟩), .pointer (some ⟨ms, 0, none⟩)], .func (.func 11) #[] #[.pointer (some ⟨mu, 0, none⟩), .pointer (some ⟨he, 0, none⟩)], .func (.func 12) #[] #[.pointer (some ⟨mu, 0, none⟩), .pointer (some ⟨ms, 0, none⟩)], .func (.func 13) #[] #[.pointer (some ⟨mu, 0, none⟩), .pointer (some ⟨ms, 0, none⟩)], .int .i8 3, .map none] → Own V (w1.heap.size + 1 + 1) 23 #[.pointer tr] → (V.cell? ⟨w1.heap.size, 3, none⟩ = some (.func (.func 13) #[] #[.pointer (some ⟨mu, 0, none⟩), .pointer (some ⟨ms, 0, none⟩)]) ∧ V.cell? ⟨w1.heap.size + 1 + 1, 0, none⟩ = some (.pointer tr)) :=
    fun V h1 h2 => ⟨(h1.cell 3).trans rfl, (h2.cell 0).trans rfl⟩
  go_upto_region 5 with fail
  go_region_held3 (fun V => V.cell? ⟨w1.heap.size, 3, none⟩ = some (.func (.func 13) #[] #[.pointer (some ⟨mu, 0, none⟩), .pointer (some ⟨ms, 0, none⟩)]) ∧ V.cell? ⟨w1.heap.size + 1 + 1, 0, none⟩ = some (.pointer tr))
    (first | assumption | exact hS _ HOL5.out.drew HOT5.out.drew | exact hS _ (hK6.own _ _ _ HOL5.out.drew (by decide) (by decide) (by decide) (by decide)) (hK6.own _ _ _ HOT5.out.drew (by decide) (by decide) (by decide) (by decide)))
    ((go_at_call 13; refine (done15 k mu he ms w.heap.size m _ xs _ (HL5.out.below (below_drewN (Below.refl _ _) 1)) hm).mono ?_; rintro e6 w6 ⟨rfl, hL6, hK6⟩))
  have hd : Below w.heap.size w6 w6 := Below.refl _ _
  have HB6 := Lib.hid ((below_drewN HB5.out 1).trans hK6.below)
  clear hL6 hK6 hS hd
  go_wp2
  refine bodyPost_ret (v := .tuple #[.bool b, .int .i64 m, .pointer tr]) (by simp [results, Tryf.results5, go_sem]) rfl ⟨b, m, tr, rfl, HC.out, HB6.out⟩
end Go.Proofs.YtobpghjknciobadFmt.Vq
