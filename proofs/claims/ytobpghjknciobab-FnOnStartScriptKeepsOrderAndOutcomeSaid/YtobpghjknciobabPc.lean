/-
  Proved: the tests on messages answer true on the three messages of a callback, and what the two kinds of callbacks and the closure that onStart
  stores return. Conditions: those that each theorem names as its hypotheses, and no others.
-/
import Derived.Test.YtobpghjknciobabPb
namespace Go.Proofs.Ytobpghjknciobab.Pc
open Go.RowKit Go.PlainAid Mem Ho Pa Pb
set_option linter.unusedVariables false
set_option linter.unusedSimpArgs false
set_option maxRecDepth 100000 in
theorem cntA (g c : Nat) (w : World) (hr : w.ownsRow 0 75 8 (.slice (some ⟨g, 0, none⟩) 3 c) 3 three) : Calls Try.prog 12 #[.slice (some ⟨g, 0, none⟩) 3 c, .int .u8 0, .string ⟨#[101, 49]⟩] w fun e w' => e = .returned (.int .i64 1) ∧ w = w' := by
  have t0 : w.cell? ⟨g, 4, none⟩ = some (.string ⟨#[101, 49]⟩) := (row_at hr 4 (by decide)).trans rfl
  have k0 : w.cell? ⟨g, 6, none⟩ = some (.int .u8 0) := (row_at hr 6 (by decide)).trans rfl
  have t1 : w.cell? ⟨g, 12, none⟩ = some (.string ⟨#[101, 50]⟩) := (row_at hr 12 (by decide)).trans rfl
  have k1 : w.cell? ⟨g, 14, none⟩ = some (.int .u8 0) := (row_at hr 14 (by decide)).trans rfl
  have t2 : w.cell? ⟨g, 20, none⟩ = some (.string ⟨#[119, 49]⟩) := (row_at hr 20 (by decide)).trans rfl
  have k2 : w.cell? ⟨g, 22, none⟩ = some (.int .u8 1) := (row_at hr 22 (by decide)).trans rfl
  clear hr
  go_enter Try.func12, Try.ntmps12
  go_wp2
  refine wp_loop_rounds 4 ?_
  rw [rounds_succ]
  go_wp2
  rw [rounds_succ]
  go_wp2
  rw [rounds_succ]
  go_wp2
  rw [rounds_succ]
  go_wp2
  go_ret
  exact ⟨rfl, rfl⟩
set_option maxRecDepth 100000 in
theorem cntB (g c : Nat) (w : World) (hr : w.ownsRow 0 75 8 (.slice (some ⟨g, 0, none⟩) 3 c) 3 three) : Calls Try.prog 12 #[.slice (some ⟨g, 0, none⟩) 3 c, .int .u8 0, .string ⟨#[101, 50]⟩] w fun e w' => e = .returned (.int .i64 1) ∧ w = w' := by
  have t0 : w.cell? ⟨g, 4, none⟩ = some (.string ⟨#[101, 49]⟩) := (row_at hr 4 (by decide)).trans rfl
  have k0 : w.cell? ⟨g, 6, none⟩ = some (.int .u8 0) := (row_at hr 6 (by decide)).trans rfl
  have t1 : w.cell? ⟨g, 12, none⟩ = some (.string ⟨#[101, 50]⟩) := (row_at hr 12 (by decide)).trans rfl
  have k1 : w.cell? ⟨g, 14, none⟩ = some (.int .u8 0) := (row_at hr 14 (by decide)).trans rfl
  have t2 : w.cell? ⟨g, 20, none⟩ = some (.string ⟨#[119, 49]⟩) := (row_at hr 20 (by decide)).trans rfl
  have k2 : w.cell? ⟨g, 22, none⟩ = some (.int .u8 1) := (row_at hr 22 (by decide)).trans rfl
  clear hr
  go_enter Try.func12, Try.ntmps12
  go_wp2
  refine wp_loop_rounds 4 ?_
  rw [rounds_succ]
  go_wp2
  rw [rounds_succ]
  go_wp2
  rw [rounds_succ]
  go_wp2
  rw [rounds_succ]
  go_wp2
  go_ret
  exact ⟨rfl, rfl⟩
set_option maxRecDepth 100000 in
theorem cntC (g c : Nat) (w : World) (hr : w.ownsRow 0 75 8 (.slice (some ⟨g, 0, none⟩) 3 c) 3 three) : Calls Try.prog 12 #[.slice (some ⟨g, 0, none⟩) 3 c, .int .u8 1, .string ⟨#[119, 49]⟩] w fun e w' => e = .returned (.int .i64 1) ∧ w = w' := by
  have t0 : w.cell? ⟨g, 4, none⟩ = some (.string ⟨#[101, 49]⟩) := (row_at hr 4 (by decide)).trans rfl
  have k0 : w.cell? ⟨g, 6, none⟩ = some (.int .u8 0) := (row_at hr 6 (by decide)).trans rfl
  have t1 : w.cell? ⟨g, 12, none⟩ = some (.string ⟨#[101, 50]⟩) := (row_at hr 12 (by decide)).trans rfl
  have k1 : w.cell? ⟨g, 14, none⟩ = some (.int .u8 0) := (row_at hr 14 (by decide)).trans rfl
  have t2 : w.cell? ⟨g, 20, none⟩ = some (.string ⟨#[119, 49]⟩) := (row_at hr 20 (by decide)).trans rfl
  have k2 : w.cell? ⟨g, 22, none⟩ = some (.int .u8 1) := (row_at hr 22 (by decide)).trans rfl
  clear hr
  go_enter Try.func12, Try.ntmps12
  go_wp2
  refine wp_loop_rounds 4 ?_
  rw [rounds_succ]
  go_wp2
  rw [rounds_succ]
  go_wp2
  rw [rounds_succ]
  go_wp2
  rw [rounds_succ]
  go_wp2
  go_ret
  exact ⟨rfl, rfl⟩
set_option maxRecDepth 100000 in
theorem is10 (g c : Nat) (w : World) (hr : w.ownsRow 0 75 8 (.slice (some ⟨g, 0, none⟩) 3 c) 3 three) : Calls Try.prog 10 #[.slice (some ⟨g, 0, none⟩) 3 c] w fun e w' => e = .returned (.bool true) ∧ w = w' := by
  have HR := Lib.hid hr
  clear hr
  go_enter Try.func10, Try.ntmps10
  go_wp2_with fail
  refine (cntA g c w HR.out).mono ?_
  rintro e w' ⟨rfl, rfl⟩
  go_wp2_with fail
  refine (cntB g c w HR.out).mono ?_
  rintro e w' ⟨rfl, rfl⟩
  go_wp2_with fail
  refine (cntC g c w HR.out).mono ?_
  rintro e w' ⟨rfl, rfl⟩
  go_wp2
  go_ret
  exact ⟨rfl, rfl⟩
theorem own_at {W : World} {n : Nat} (h : W.heap.size = n) (t : TypeId) (cs : Array Value) : Own (W.alloc (.cells cs t)) n t cs := by subst h; exact Own.new W t cs
def Thrown (w : World) (e : Ending) (w' : World) : Prop := ∃ g p, e = .returned (.tuple #[.agg #[.slice (some ⟨g, 0, none⟩) 1 1, .slice none 0 0], .iface 63 (.pointer (some p))]) ∧ Below w.heap.size w w'
set_option maxRecDepth 100000 in
theorem throw7 (w : World) : Calls Try.prog 7 #[] w (Thrown w) := by
  go_enter Try.func7, Try.ntmps7
  go_wp2
  refine bodyPost_ret (v := .tuple #[.agg #[.slice (some ⟨w.heap.size + 1, 0, none⟩) 1 1, .slice none 0 0], .iface 63 (.pointer (some ⟨w.heap.size + 1 + 1, 0, none⟩))]) (by simp [results, Try.results7, go_sem]) rfl ?_
  exact ⟨_, _, rfl, by go_grown⟩
def Said (w : World) (e : Ending) (w' : World) : Prop := ∃ g1 g2, e = .returned (.tuple #[.agg #[.slice (some ⟨g1, 0, none⟩) 2 2, .slice (some ⟨g2, 0, none⟩) 1 1], .nilIface]) ∧ Own w' g1 62 (api e1 ++ api e2).toArray ∧ Own w' g2 62 (api w1).toArray ∧ Below w.heap.size w w'
set_option maxRecDepth 100000 in
theorem said8 (w : World) : Calls Try.prog 8 #[] w (Said w) := by
  go_enter Try.func8, Try.ntmps8
  go_wp2
  refine bodyPost_ret (v := .tuple #[.agg #[.slice (some ⟨w.heap.size + 1, 0, none⟩) 2 2, .slice (some ⟨w.heap.size + 1 + 1, 0, none⟩) 1 1], .nilIface]) (by simp [results, Try.results8, go_sem]) rfl ?_
  exact ⟨_, _, rfl, (own_at (by simp) _ _).alloc _, own_at (by simp) _ _, by go_grown⟩
theorem grown_set (W : World) (p i : Nat) (u : Value) : W.grownBy (W.setCell ⟨p, i, none⟩ u) (some p) :=
  have h : Below 0 W (W.setCell ⟨p, i, none⟩ u) := (Below.refl 0 W).setCell (Nat.zero_le _) u
  ⟨h.os, h.tape, h.output, h.size, fun k _ hk => Below.heap_setCell W _ u k (fun e => hk (by rw [e]))⟩
theorem row_set {W : World} {lo sz n p : Nat} {e t : TypeId} {v : Value} {xs : List Value} {cs : Array Value} (h : W.ownsRow lo e sz v n xs) (ho : Own W p t cs) (ht : t ≠ e) (i : Nat) (u : Value) : (W.setCell ⟨p, i, none⟩ u).ownsRow lo e sz v n xs :=
  h.kept (grown_set W p i u) (.inr fun he => ne_row h ho ht he.symm)
/-- what a callback gives -/
def Cb (th : Bool) (w : World) (e : Ending) (w' : World) : Prop :=
  (th = true ∧ ∃ p, e = .returned (.agg #[.iface 63 (.pointer (some p)), .slice none 0 0]) ∧ Below w.heap.size w w') ∨
  (th = false ∧ ∃ g c, e = .returned (.agg #[.nilIface, .slice (some ⟨g, 0, none⟩) 3 c]) ∧ w'.ownsRow 0 75 8 (.slice (some ⟨g, 0, none⟩) 3 c) 3 three ∧ Below w.heap.size w w')
set_option maxRecDepth 100000 in
theorem cb13 (bx : Nat) (th : Bool) (w : World) (hb : Own w bx 27 #[.func (.func (if th then 7 else 8)) #[] #[]]) : Calls Try.prog 13 #[.pointer (some ⟨bx, 0, none⟩)] w (Cb th w) := by
  have HBx := Lib.hid hb
  clear hb
  go_enter Try.func13, Try.ntmps13
  go_upto_region 1 with fail
  generalize hW : w.alloc _ = W
  have hb : Below w.heap.size w W := by rw [← hW]; exact (Below.refl _ _).alloc (Nat.le_refl _) _
  have ho : Own W w.heap.size 41 #[.nilIface, .slice none 0 0] := by rw [← hW]; exact Own.new _ _ _
  have hx := HBx.out.below hb HBx.out.lt
  have HO := Lib.hid ho
  have HB := Lib.hid hb
  clear hW hb ho
  cases th
  · have x0 : W.cell? ⟨bx, 0, none⟩ = some (.func (.func 8) #[] #[]) := (hx.cell 0).trans rfl
    clear hx
    go_wp2_with fail
    refine (said8 W).mono ?_
    rintro e w1 ⟨g1, g2, rfl, h1, h2, hb1⟩
    have H1 := Lib.hid h1
    have H2 := Lib.hid h2
    have HB1 := Lib.hid hb1
    clear h1 h2 hb1
    go_upto_region 4 with fail
    generalize hW2 : w1.alloc _ = W2
    have hb2 : Below w1.heap.size w1 W2 := by rw [← hW2]; exact (Below.refl _ _).alloc (Nat.le_refl _) _
    have ho2 : Own W2 w1.heap.size 58 #[.slice (some ⟨g1, 0, none⟩) 2 2, .slice (some ⟨g2, 0, none⟩) 1 1] := by rw [← hW2]; exact Own.new _ _ _
    have y0 : W2.cell? ⟨w1.heap.size, 0, none⟩ = some (.slice (some ⟨g1, 0, none⟩) 2 2) := (ho2.cell 0).trans rfl
    have y1 : W2.cell? ⟨w1.heap.size, 1, none⟩ = some (.slice (some ⟨g2, 0, none⟩) 1 1) := (ho2.cell 1).trans rfl
    have K1 := Lib.hid (H1.out.below hb2 H1.out.lt)
    have K2 := Lib.hid (H2.out.below hb2 H2.out.lt)
    have HB2 := Lib.hid (HB1.out.trans (hb2.mono HB1.out.size))
    clear hW2 hb2 ho2
    go_wp2_with fail
    refine (conv14 g1 g2 W2 K1.out K2.out).mono ?_
    rintro e w3 ⟨A, c, rfl, hr3, hb3⟩
    obtain ⟨g3, h3⟩ := row_some hr3 (by omega)
    obtain rfl : A = ⟨g3, 0, none⟩ := by injection h3
    have HB3 := Lib.hid (HB2.out.trans (hb3.mono HB2.out.size))
    have ho3 := HO.out.below HB3.out HO.out.lt
    have f3 : ∀ j, w3.frozen? ⟨w.heap.size, j, none⟩ = false := ho3.frozen
    have o0 : w3.cell? ⟨w.heap.size, 0, none⟩ = some .nilIface := (ho3.cell 0).trans rfl
    have o1 : w3.cell? ⟨w.heap.size, 1, none⟩ = some (.slice none 0 0) := (ho3.cell 1).trans rfl
    have HR3 := Lib.hid hr3
    have HO3 := Lib.hid ho3
    clear hr3 hb3 ho3 h3
    go_wp2_with fail
    have hV := HO3.out.set 1 (.slice (some ⟨g3, 0, none⟩) 3 c)
    have hR := row_set HR3.out HO3.out (by decide) 1 (.slice (some ⟨g3, 0, none⟩) 3 c)
    have hB := (HB.out.trans (HB3.out.mono HB.out.size)).setCell (p := ⟨w.heap.size, 1, none⟩) (Nat.le_refl _) (.slice (some ⟨g3, 0, none⟩) 3 c)
    generalize hVV : w3.setCell _ _ = V at hV hR hB ⊢
    have t0 : V.cell? ⟨w.heap.size, 0, none⟩ = some .nilIface := (hV.cell 0).trans rfl
    have t1 : V.cell? ⟨w.heap.size, 1, none⟩ = some (.slice (some ⟨g3, 0, none⟩) 3 c) := (hV.cell 1).trans rfl
    exact bodyPost_ret (v := .agg #[.nilIface, .slice (some ⟨g3, 0, none⟩) 3 c]) (by simp [results, Try.results13, go_sem, t0, t1]) rfl (.inr ⟨rfl, _, _, rfl, hR, hB⟩)
  · have x0 : W.cell? ⟨bx, 0, none⟩ = some (.func (.func 7) #[] #[]) := (hx.cell 0).trans rfl
    clear hx
    go_wp2_with fail
    refine (throw7 W).mono ?_
    rintro e w1 ⟨g1, p, rfl, hb1⟩
    have HB1 := Lib.hid hb1
    have ho3 := HO.out.below hb1 HO.out.lt
    have o0 : ∀ o, (w1.alloc o).cell? ⟨w.heap.size, 0, none⟩ = some .nilIface := fun o => ((ho3.alloc o).cell 0).trans rfl
    have o1 : ∀ o, (w1.alloc o).cell? ⟨w.heap.size, 1, none⟩ = some (.slice none 0 0) := fun o => ((ho3.alloc o).cell 1).trans rfl
    have f3 : ∀ o j, (w1.alloc o).frozen? ⟨w.heap.size, j, none⟩ = false := fun o j => (ho3.alloc o).frozen j
    have HO3 := Lib.hid ho3
    clear hb1 ho3
    go_wp2_with fail
    have hV := (HO3.out.alloc (.cells #[.slice (some ⟨g1, 0, none⟩) 1 1, .slice none 0 0] 58)).set 0 (.iface 63 (.pointer (some p)))
    have hB := ((HB.out.trans (HB1.out.mono HB.out.size)).alloc (Nat.le_trans HB.out.size HB1.out.size) (.cells #[.slice (some ⟨g1, 0, none⟩) 1 1, .slice none 0 0] 58)).setCell (p := ⟨w.heap.size, 0, none⟩) (Nat.le_refl _) (.iface 63 (.pointer (some p)))
    generalize hVV : (w1.alloc _).setCell _ _ = V at hV hB ⊢
    have t0 : V.cell? ⟨w.heap.size, 0, none⟩ = some (.iface 63 (.pointer (some p))) := (hV.cell 0).trans rfl
    have t1 : V.cell? ⟨w.heap.size, 1, none⟩ = some (.slice none 0 0) := (hV.cell 1).trans rfl
    exact bodyPost_ret (v := .agg #[.iface 63 (.pointer (some p)), .slice none 0 0]) (by simp [results, Try.results13, go_sem, t0, t1]) rfl (.inl ⟨rfl, _, rfl, hB⟩)
end Go.Proofs.Ytobpghjknciobab.Pc
