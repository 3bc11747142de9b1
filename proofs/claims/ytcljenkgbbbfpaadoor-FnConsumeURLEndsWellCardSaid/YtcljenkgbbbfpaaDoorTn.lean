/-
  Proved: AddID and AddIDWithNotes log one message and leave the lexer but for the cells of the tracker. Conditions: those that each theorem names as
  its hypotheses, and no others.
-/
import Derived.Test.YtcljenkgbbbfpaaDoorTm
namespace Go.Proofs.YtcljenkgbbbfpaaDoor.Tn
open Go.RowKit Go.PlainAid Str Mem Ho De Lu Lg Dw Tk Tl Tm
set_option linter.unusedVariables false
set_option linter.unusedSimpArgs false
theorem LogSt.grown {W W1 : World} {lo k mu hm ms n q : Nat} {v : Value} {xs : List Value} {cs : Array Value} (h : LogSt W lo k mu hm ms v n xs) (hg : W.grownBy W1 (some q)) (hq : Own W q 64 cs) : LogSt W1 lo k mu hm ms v n xs := by
  have kp : ∀ {p t cs}, Own W p t cs → t ≠ 64 → Own W1 p t cs := fun {p t cs} ho ht => (hg.block p ho.lt (fun e => own_ne ho hq ht (Option.some.inj e))).trans ho
  exact ⟨kp h.okd (by decide), kp h.omu (by decide), h.ohe.imp fun _ ho => kp ho (by decide), kp h.oms (by decide), h.row.kept hg (.inr fun e => ne_row h.row hq (by decide) e.symm), h.lmu, h.lhe, h.lms, Nat.le_trans h.lw hg.size⟩
/-- A message was logged: the lexer's block stands but for the tracker's cells. -/
def Logged (g : Nat) (cs : Array Value) (lo : Nat) (w : World) (e : Ending) (w' : World) : Prop :=
  e = .returned (.tuple #[]) ∧ (∃ cs', Own w' g 64 cs' ∧ Same cs cs' ∧ cs'.size = 41) ∧ Below lo w w' ∧ ∀ p t c0, Own w p t c0 → p ≠ g → t ≠ 134 → t ≠ 4 → t ≠ 128 → t ≠ 136 → Own w' p t c0
set_option maxRecDepth 100000 in
set_option maxHeartbeats 4000000 in
theorem addID62 (g : Nat) (cs : Array Value) (s : ByteArray) (off o ln ls le : Nat) (he : Bool) (len : Int) (tx : ByteArray) (k mu hm ms lo n : Nat) (v : Value) (xs : List Value) (w : World) (hL : LogSt w lo k mu hm ms v n xs) (hn : n ≤ 1048576) (hlo : lo ≤ g) (h : Tk.Tk g cs s w w cs o ln ls le he) (ho : o ≤ off) (hoff : off ≤ s.size) (hs : s.size ≤ 1048576) (hl0 : 0 ≤ len) (hl1 : len ≤ 1048576) (hT : Lib.Utf8Tabs 1 2 w) (hg : 3 ≤ g) (hw : 3 ≤ w.heap.size) :
    Calls Tryd.prog 62 #[logV k mu hm ms, .int .u8 34, .int .u8 1, .pointer (some ⟨g, 22, none⟩), .agg #[.int .i32 off, .int .i32 len], .string tx] w (Logged g cs lo w) := by
  have HL := Lib.hid hL
  have HH := Lib.hid h
  have HT := Lib.hid hT
  clear hL h hT
  unfold logV
  go_enter Tryd.func62, Tryd.ntmps62
  go_upto_region 1 with fail
  generalize hW : (w.alloc _).alloc _ = W
  have hb : Below w.heap.size w W := by rw [← hW]; exact ((Below.refl _ _).alloc (Nat.le_refl _) _).alloc (by simp) _
  have oL : Own W w.heap.size 46 #[.func (.func 78) #[] #[.pointer (some ⟨k, 0, none⟩), .pointer (some ⟨mu, 0, none⟩), .pointer (some ⟨hm, 0, none⟩), .pointer (some ⟨ms, 0, none⟩)], .func (.func 81) #[] #[.pointer (some ⟨mu, 0, none⟩), .pointer (some ⟨hm, 0, none⟩)], .func (.func 82) #[] #[.pointer (some ⟨mu, 0, none⟩), .pointer (some ⟨ms, 0, none⟩)], .func (.func 83) #[] #[.pointer (some ⟨mu, 0, none⟩), .pointer (some ⟨ms, 0, none⟩)], .int .i8 3, .map none] := by rw [← hW]; exact (own_at rfl _ _).alloc _
  have oR : Own W (w.heap.size + 1) 31 #[.int .i32 off, .int .i32 len] := by rw [← hW]; exact own_at (by simp) _ _
  have l5 : W.cell? ⟨w.heap.size, 5, none⟩ = some (.map none) := (oL.cell 5).trans rfl
  have HOL := Lib.hid oL
  have HOR := Lib.hid oR
  have HK := Lib.hid (HH.out.below hb)
  have HB := Lib.hid hb
  have HL1 := Lib.hid (HL.out.below hb)
  have HTW := Lib.hid (tabs_gr HT.out hg hw (grown_of_below hb (some g)))
  have hsz := hb.size
  have hw3 : 3 ≤ W.heap.size := Nat.le_trans hw hsz
  clear hW hb oL oR
  go_wp2_with fail
  refine (over85 W).mono ?_
  rintro e w' ⟨rfl, rfl⟩
  clear l5
  have hS : ∀ V, Own V w.heap.size 46 #[.func (.func 78) #[] #[.pointer (some ⟨k, 0, none⟩), .pointer (some ⟨mu, 0, none⟩), .pointer (some ⟨hm, 0, none⟩), .pointer (some ⟨ms, 0, none⟩)], .func (.func 81) #[] #[.pointer (some ⟨mu, 0, none⟩), .pointer (some ⟨hm, 0, none⟩)], .func (.func 82) #[] #[.pointer (some ⟨mu, 0, none⟩), .pointer (some ⟨ms, 0, none⟩)], .func (.func 83) #[] #[.pointer (some ⟨mu, 0, none⟩), .pointer (some ⟨ms, 0, none⟩)], .int .i8 3, .map none] → Own V (w.heap.size + 1) 31 #[.int .i32 off, .int .i32 len] →
      (V.cell? ⟨w.heap.size, 0, none⟩ = some (.func (.func 78) #[] #[.pointer (some ⟨k, 0, none⟩), .pointer (some ⟨mu, 0, none⟩), .pointer (some ⟨hm, 0, none⟩), .pointer (some ⟨ms, 0, none⟩)]) ∧ V.cell? ⟨w.heap.size + 1, 0, none⟩ = some (.int .i32 off) ∧ V.cell? ⟨w.heap.size + 1, 1, none⟩ = some (.int .i32 len)) :=
    fun V h1 h2 => ⟨(h1.cell 0).trans rfl, (h2.cell 0).trans rfl, (h2.cell 1).trans rfl⟩
  have kq : ∀ {V V1 : World} {p t cs0}, Own V p t cs0 → Own V g 64 cs → V.grownBy V1 (some g) → t ≠ 64 → Own V1 p t cs0 := fun {V V1 p t cs0} ho hq hg ht => (hg.block p ho.lt (fun e => own_ne ho hq ht (Option.some.inj e))).trans ho
  go_upto_region 3 with fail
  go_region_held3 (fun V => V.cell? ⟨w.heap.size, 0, none⟩ = some (.func (.func 78) #[] #[.pointer (some ⟨k, 0, none⟩), .pointer (some ⟨mu, 0, none⟩), .pointer (some ⟨hm, 0, none⟩), .pointer (some ⟨ms, 0, none⟩)]) ∧ V.cell? ⟨w.heap.size + 1, 0, none⟩ = some (.int .i32 off) ∧ V.cell? ⟨w.heap.size + 1, 1, none⟩ = some (.int .i32 len))
    (first | assumption | exact hS _ HOL.out.drew HOR.out.drew | exact hS _ (kq HOL.out.drew HK.out.tr.own.drew hk3.gr (by decide)) (kq HOR.out.drew HK.out.tr.own.drew hk3.gr (by decide)) | exact hS _ (hK4.own _ _ _ (kq HOL.out.drew HK.out.tr.own.drew hk3.gr (by decide)) (by decide) (by decide) (by decide) (by decide)) (hK4.own _ _ _ (kq HOR.out.drew HK.out.tr.own.drew hk3.gr (by decide)) (by decide) (by decide) (by decide) (by decide)))
    (first
      | (go_at_call 60; refine (dat60 g cs s off o ln ls le he len tx _ (HK.out.below (below_drewN (Below.refl _ _) 1)).start ho hoff hs hl0 hl1 (tabs_gr HTW.out hg hw3 (grown_of_below (below_drewN (Below.refl _ _) 1) (some g))) hg hw3).mono ?_; rintro e3 w3 ⟨⟨l, rfl⟩, cs3, o3, ln3, ls3, le3, hk3, ho3, hc3⟩)
      | (go_at_call 78; refine (add10 none 0 0 ⟨#[]⟩ (some l) tx false 1 34 k mu hm ms lo n v xs _ (LogSt.grown (LogSt.below HL1.out (below_drewN (Below.refl _ _) 1)) hk3.gr HK.out.tr.own.drew) (by decide) (by decide) hn).mono ?_; rintro e4 w4 ⟨rfl, v4, hL4, hK4⟩))
  go_end0
  have hlw := HL.out.lw
  have hb2 : Below lo W w3 := ⟨hk3.gr.os, hk3.gr.tape, hk3.gr.output, hk3.gr.size, fun p hp => hk3.gr.block p (Nat.lt_of_lt_of_le hp (Nat.le_trans hlw hsz)) (fun e => by injection e with e; omega)⟩
  exact ⟨rfl, ⟨cs3, hK4.own _ _ _ hk3.tr.own (by decide) (by decide) (by decide) (by decide), hk3.same, hk3.tr.sz⟩, (HB.out.mono hlw).trans (hb2.trans hK4.below), fun p t c0 hp hpg a b c d => hK4.own _ _ _ ((hk3.gr.block p (hp.below HB.out hp.lt).lt (fun e => hpg (Option.some.inj e))).trans (hp.below HB.out hp.lt).drew) a b c d⟩
set_option maxRecDepth 100000 in
set_option maxHeartbeats 4000000 in
theorem addIDN59 (g : Nat) (cs : Array Value) (s : ByteArray) (off o ln ls le : Nat) (he : Bool) (len : Int) (tx : ByteArray) (nA : Option Addr) (nn nc : Nat) (k mu hm ms lo n : Nat) (v : Value) (xs : List Value) (w : World) (hL : LogSt w lo k mu hm ms v n xs) (hn : n ≤ 1048576) (hlo : lo ≤ g) (h : Tk.Tk g cs s w w cs o ln ls le he) (ho : o ≤ off) (hoff : off ≤ s.size) (hs : s.size ≤ 1048576) (hl0 : 0 ≤ len) (hl1 : len ≤ 1048576) (hT : Lib.Utf8Tabs 1 2 w) (hg : 3 ≤ g) (hw : 3 ≤ w.heap.size) :
    Calls Tryd.prog 59 #[logV k mu hm ms, .int .u8 34, .int .u8 1, .pointer (some ⟨g, 22, none⟩), .agg #[.int .i32 off, .int .i32 len], .string tx, .slice nA nn nc] w (Logged g cs lo w) := by
  have HL := Lib.hid hL
  have HH := Lib.hid h
  have HT := Lib.hid hT
  clear hL h hT
  unfold logV
  go_enter Tryd.func59, Tryd.ntmps59
  go_upto_region 1 with fail
  generalize hW : (w.alloc _).alloc _ = W
  have hb : Below w.heap.size w W := by rw [← hW]; exact ((Below.refl _ _).alloc (Nat.le_refl _) _).alloc (by simp) _
  have oL : Own W w.heap.size 46 #[.func (.func 78) #[] #[.pointer (some ⟨k, 0, none⟩), .pointer (some ⟨mu, 0, none⟩), .pointer (some ⟨hm, 0, none⟩), .pointer (some ⟨ms, 0, none⟩)], .func (.func 81) #[] #[.pointer (some ⟨mu, 0, none⟩), .pointer (some ⟨hm, 0, none⟩)], .func (.func 82) #[] #[.pointer (some ⟨mu, 0, none⟩), .pointer (some ⟨ms, 0, none⟩)], .func (.func 83) #[] #[.pointer (some ⟨mu, 0, none⟩), .pointer (some ⟨ms, 0, none⟩)], .int .i8 3, .map none] := by rw [← hW]; exact (own_at rfl _ _).alloc _
  have oR : Own W (w.heap.size + 1) 31 #[.int .i32 off, .int .i32 len] := by rw [← hW]; exact own_at (by simp) _ _
  have l5 : W.cell? ⟨w.heap.size, 5, none⟩ = some (.map none) := (oL.cell 5).trans rfl
  have HOL := Lib.hid oL
  have HOR := Lib.hid oR
  have HK := Lib.hid (HH.out.below hb)
  have HB := Lib.hid hb
  have HL1 := Lib.hid (HL.out.below hb)
  have HTW := Lib.hid (tabs_gr HT.out hg hw (grown_of_below hb (some g)))
  have hsz := hb.size
  have hw3 : 3 ≤ W.heap.size := Nat.le_trans hw hsz
  clear hW hb oL oR
  go_wp2_with fail
  refine (over85 W).mono ?_
  rintro e w' ⟨rfl, rfl⟩
  clear l5
  have hS : ∀ V, Own V w.heap.size 46 #[.func (.func 78) #[] #[.pointer (some ⟨k, 0, none⟩), .pointer (some ⟨mu, 0, none⟩), .pointer (some ⟨hm, 0, none⟩), .pointer (some ⟨ms, 0, none⟩)], .func (.func 81) #[] #[.pointer (some ⟨mu, 0, none⟩), .pointer (some ⟨hm, 0, none⟩)], .func (.func 82) #[] #[.pointer (some ⟨mu, 0, none⟩), .pointer (some ⟨ms, 0, none⟩)], .func (.func 83) #[] #[.pointer (some ⟨mu, 0, none⟩), .pointer (some ⟨ms, 0, none⟩)], .int .i8 3, .map none] → Own V (w.heap.size + 1) 31 #[.int .i32 off, .int .i32 len] →
      (V.cell? ⟨w.heap.size, 0, none⟩ = some (.func (.func 78) #[] #[.pointer (some ⟨k, 0, none⟩), .pointer (some ⟨mu, 0, none⟩), .pointer (some ⟨hm, 0, none⟩), .pointer (some ⟨ms, 0, none⟩)]) ∧ V.cell? ⟨w.heap.size + 1, 0, none⟩ = some (.int .i32 off) ∧ V.cell? ⟨w.heap.size + 1, 1, none⟩ = some (.int .i32 len)) :=
    fun V h1 h2 => ⟨(h1.cell 0).trans rfl, (h2.cell 0).trans rfl, (h2.cell 1).trans rfl⟩
  have kq : ∀ {V V1 : World} {p t cs0}, Own V p t cs0 → Own V g 64 cs → V.grownBy V1 (some g) → t ≠ 64 → Own V1 p t cs0 := fun {V V1 p t cs0} ho hq hg ht => (hg.block p ho.lt (fun e => own_ne ho hq ht (Option.some.inj e))).trans ho
  go_upto_region 3 with fail
  go_region_held3 (fun V => V.cell? ⟨w.heap.size, 0, none⟩ = some (.func (.func 78) #[] #[.pointer (some ⟨k, 0, none⟩), .pointer (some ⟨mu, 0, none⟩), .pointer (some ⟨hm, 0, none⟩), .pointer (some ⟨ms, 0, none⟩)]) ∧ V.cell? ⟨w.heap.size + 1, 0, none⟩ = some (.int .i32 off) ∧ V.cell? ⟨w.heap.size + 1, 1, none⟩ = some (.int .i32 len))
    (first | assumption | exact hS _ HOL.out.drew HOR.out.drew | exact hS _ (kq HOL.out.drew HK.out.tr.own.drew hk3.gr (by decide)) (kq HOR.out.drew HK.out.tr.own.drew hk3.gr (by decide)) | exact hS _ (hK4.own _ _ _ (kq HOL.out.drew HK.out.tr.own.drew hk3.gr (by decide)) (by decide) (by decide) (by decide) (by decide)) (hK4.own _ _ _ (kq HOR.out.drew HK.out.tr.own.drew hk3.gr (by decide)) (by decide) (by decide) (by decide) (by decide)))
    (first
      | (go_at_call 60; refine (dat60 g cs s off o ln ls le he len tx _ (HK.out.below (below_drewN (Below.refl _ _) 1)).start ho hoff hs hl0 hl1 (tabs_gr HTW.out hg hw3 (grown_of_below (below_drewN (Below.refl _ _) 1) (some g))) hg hw3).mono ?_; rintro e3 w3 ⟨⟨l, rfl⟩, cs3, o3, ln3, ls3, le3, hk3, ho3, hc3⟩)
      | (go_at_call 78; refine (add10 nA nn nc ⟨#[]⟩ (some l) tx false 1 34 k mu hm ms lo n v xs _ (LogSt.grown (LogSt.below HL1.out (below_drewN (Below.refl _ _) 1)) hk3.gr HK.out.tr.own.drew) (by decide) (by decide) hn).mono ?_; rintro e4 w4 ⟨rfl, v4, hL4, hK4⟩))
  go_end0
  have hlw := HL.out.lw
  have hb2 : Below lo W w3 := ⟨hk3.gr.os, hk3.gr.tape, hk3.gr.output, hk3.gr.size, fun p hp => hk3.gr.block p (Nat.lt_of_lt_of_le hp (Nat.le_trans hlw hsz)) (fun e => by injection e with e; omega)⟩
  exact ⟨rfl, ⟨cs3, hK4.own _ _ _ hk3.tr.own (by decide) (by decide) (by decide) (by decide), hk3.same, hk3.tr.sz⟩, (HB.out.mono hlw).trans (hb2.trans hK4.below), fun p t c0 hp hpg a b c d => hK4.own _ _ _ ((hk3.gr.block p (hp.below HB.out hp.lt).lt (fun e => hpg (Option.some.inj e))).trans (hp.below HB.out hp.lt).drew) a b c d⟩
end Go.Proofs.YtcljenkgbbbfpaaDoor.Tn
