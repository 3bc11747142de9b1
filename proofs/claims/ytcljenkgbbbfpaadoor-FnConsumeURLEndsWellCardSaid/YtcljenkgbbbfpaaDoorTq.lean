/-
  Proved: what the tests of the law on white space and newlines return, the making of its lexer and of the tracker, and that the wrapper of consumeURL
  gives the kind and the end that the law allows. Conditions: those that each theorem names as its hypotheses, and no others.
-/
import Derived.Test.YtcljenkgbbbfpaaDoorTp
namespace Go.Proofs.YtcljenkgbbbfpaaDoor.Tq
open Go.RowKit Go.PlainAid Str Mem Ho De Lu Lg Dw Tk Tl Tm Tn To Cu Rws Tp
set_option linter.unusedVariables false
set_option linter.unusedSimpArgs false
def nlB (c : Int) : Bool := c == 10 || c == 13 || c == 12
theorem nl47 (c : Int) (w : World) : Calls Tryd.prog 47 #[.int .u8 c] w fun e w' => e = .returned (.bool (nlB c)) ∧ w = w' := by
  unfold nlB
  cases e1 : (c == 10) <;> cases e2 : (c == 13) <;> cases e3 : (c == 12)
  all_goals
    go_enter Tryd.func47, Tryd.ntmps47
    go_wp2
    go_ret
    exact ⟨rfl, rfl⟩
theorem ws29 (c : Int) (w : World) : Calls Tryd.prog 29 #[.int .u8 c] w fun e w' => e = .returned (.bool (c == 32 || c == 9 || nlB c)) ∧ w = w' := by
  unfold nlB
  cases e1 : (c == 32) <;> cases e2 : (c == 9) <;> cases e3 : (c == 10) <;> cases e4 : (c == 13) <;> cases e5 : (c == 12)
  all_goals
    go_enter Tryd.func29, Tryd.ntmps29
    go_wp2
    go_ret
    exact ⟨rfl, rfl⟩
def trkC (s a b : ByteArray) (t : Bool) : Array Value := #[.string s, .string a, .string b, .int .i32 0, .int .i32 0, .int .i32 0, .int .i32 0, .bool true, .bool false, .bool t]
def Giv (v : Value) (w : World) (e : Ending) (w' : World) : Prop := e = .returned v ∧ Below w.heap.size w w'
set_option maxRecDepth 100000 in
set_option maxHeartbeats 4000000 in
theorem trk57 (g : Nat) (s a b : ByteArray) (cs : Array Value) (w : World) (hp : Own w g 64 cs) (h7 : cs[7]? = some (.string a)) (h8 : cs[8]? = some (.string b)) (h10 : cs[10]? = some (.string s)) : Calls Tryd.prog 57 #[.pointer (some ⟨g, 7, none⟩)] w (Giv (.agg (trkC s a b true)) w) := by
  have HP := Lib.hid hp
  have H7 := Lib.hid h7
  have H8 := Lib.hid h8
  have H10 := Lib.hid h10
  clear hp h7 h8 h10
  go_enter Tryd.func57, Tryd.ntmps57
  go_upto_region 3 with fail
  generalize hW : w.alloc _ = W
  have hb : Below w.heap.size w W := by rw [← hW]; exact (Below.refl _ _).alloc (Nat.le_refl _) _
  have ho : Own W w.heap.size 62 #[.string ⟨#[]⟩, .string ⟨#[]⟩, .string ⟨#[]⟩, .int .i32 0, .int .i32 0, .int .i32 0, .int .i32 0, .bool false, .bool false, .bool false] := by rw [← hW]; exact Own.new _ _ _
  have hp := HP.out.below hb HP.out.lt
  have c0 : W.cell? ⟨g, 7, none⟩ = some (.string a) := (hp.cell 7).trans H7.out
  have c1 : W.cell? ⟨g, 8, none⟩ = some (.string b) := (hp.cell 8).trans H8.out
  have c2 : W.cell? ⟨g, 10, none⟩ = some (.string s) := (hp.cell 10).trans H10.out
  have f0 : ∀ j, W.frozen? ⟨w.heap.size, j, none⟩ = false := ho.frozen
  have o0 : W.cell? ⟨w.heap.size, 0, none⟩ = some (.string ⟨#[]⟩) := (ho.cell 0).trans rfl
  have o1 : W.cell? ⟨w.heap.size, 1, none⟩ = some (.string ⟨#[]⟩) := (ho.cell 1).trans rfl
  have o2 : W.cell? ⟨w.heap.size, 2, none⟩ = some (.string ⟨#[]⟩) := (ho.cell 2).trans rfl
  have o3 : W.cell? ⟨w.heap.size, 3, none⟩ = some (.int .i32 0) := (ho.cell 3).trans rfl
  have o4 : W.cell? ⟨w.heap.size, 4, none⟩ = some (.int .i32 0) := (ho.cell 4).trans rfl
  have o5 : W.cell? ⟨w.heap.size, 5, none⟩ = some (.int .i32 0) := (ho.cell 5).trans rfl
  have o6 : W.cell? ⟨w.heap.size, 6, none⟩ = some (.int .i32 0) := (ho.cell 6).trans rfl
  have o7 : W.cell? ⟨w.heap.size, 7, none⟩ = some (.bool false) := (ho.cell 7).trans rfl
  have o8 : W.cell? ⟨w.heap.size, 8, none⟩ = some (.bool false) := (ho.cell 8).trans rfl
  have o9 : W.cell? ⟨w.heap.size, 9, none⟩ = some (.bool false) := (ho.cell 9).trans rfl
  go_region
  have hb9 := ((((((((((hb.setCell (p := ⟨w.heap.size, 0, none⟩) (Nat.le_refl _) (.string s)).setCell (p := ⟨w.heap.size, 1, none⟩) (Nat.le_refl _) (.string a)).setCell (p := ⟨w.heap.size, 2, none⟩) (Nat.le_refl _) (.string b)).setCell (p := ⟨w.heap.size, 3, none⟩) (Nat.le_refl _) (.int .i32 0)).setCell (p := ⟨w.heap.size, 4, none⟩) (Nat.le_refl _) (.int .i32 0)).setCell (p := ⟨w.heap.size, 5, none⟩) (Nat.le_refl _) (.int .i32 0)).setCell (p := ⟨w.heap.size, 6, none⟩) (Nat.le_refl _) (.int .i32 0)).setCell (p := ⟨w.heap.size, 7, none⟩) (Nat.le_refl _) (.bool true)).setCell (p := ⟨w.heap.size, 8, none⟩) (Nat.le_refl _) (.bool false)).setCell (p := ⟨w.heap.size, 9, none⟩) (Nat.le_refl _) (.bool true)).drew
  have h9 := ((((((((((ho.set 0 (.string s)).set 1 (.string a)).set 2 (.string b)).set 3 (.int .i32 0)).set 4 (.int .i32 0)).set 5 (.int .i32 0)).set 6 (.int .i32 0)).set 7 (.bool true)).set 8 (.bool false)).set 9 (.bool true)).drew
  generalize hV : World.drew _ = V at hb9 h9 ⊢
  have ho9 : Own V w.heap.size 62 (trkC s a b true) := by
    have e := h9
    simp only [List.setIfInBounds_toArray, List.set_cons_zero, List.set_cons_succ] at e
    exact e
  have t0 : V.cell? ⟨w.heap.size, 0, none⟩ = some (.string s) := (ho9.cell 0).trans rfl
  have t1 : V.cell? ⟨w.heap.size, 1, none⟩ = some (.string a) := (ho9.cell 1).trans rfl
  have t2 : V.cell? ⟨w.heap.size, 2, none⟩ = some (.string b) := (ho9.cell 2).trans rfl
  have t3 : V.cell? ⟨w.heap.size, 3, none⟩ = some (.int .i32 0) := (ho9.cell 3).trans rfl
  have t4 : V.cell? ⟨w.heap.size, 4, none⟩ = some (.int .i32 0) := (ho9.cell 4).trans rfl
  have t5 : V.cell? ⟨w.heap.size, 5, none⟩ = some (.int .i32 0) := (ho9.cell 5).trans rfl
  have t6 : V.cell? ⟨w.heap.size, 6, none⟩ = some (.int .i32 0) := (ho9.cell 6).trans rfl
  have t7 : V.cell? ⟨w.heap.size, 7, none⟩ = some (.bool true) := (ho9.cell 7).trans rfl
  have t8 : V.cell? ⟨w.heap.size, 8, none⟩ = some (.bool false) := (ho9.cell 8).trans rfl
  have t9 : V.cell? ⟨w.heap.size, 9, none⟩ = some (.bool true) := (ho9.cell 9).trans rfl
  clear hV h9 ho9 ho hb hp hW f0 c0 c1 c2 o0 o1 o2 o3 o4 o5 o6 o7 o8 o9
  go_wp2
  refine bodyPost_ret (v := .agg (trkC s a b true)) (by simp [results, Tryd.results57, go_sem, trkC, t0, t1, t2, t3, t4, t5, t6, t7, t8, t9]) rfl ⟨rfl, hb9⟩
/-- A new lexer at k: its block, its log. -/
def Mk (s : ByteArray) (k0 : Nat) (w : World) (e : Ending) (w' : World) : Prop :=
  ∃ (g k mu hm ms : Nat) (B : Nat → Option Value), e = .returned (.pointer (some ⟨g, 0, none⟩)) ∧ w.heap.size ≤ g ∧ Ax B g s (k0 : Int) k0 w' ∧ LogSt w' w.heap.size k mu hm ms (.slice none 0 0) 0 [] ∧ BB B s k mu hm ms ∧ Below w.heap.size w w'
set_option maxRecDepth 100000 in
set_option maxHeartbeats 8000000 in
theorem mk48 (s : ByteArray) (k0 : Nat) (w : World) (hk : k0 ≤ s.size) (hs : s.size ≤ 1048576) (hT : Lib.Utf8Tabs 1 2 w) (hw : 3 ≤ w.heap.size) : Calls Tryd.prog 48 #[.string s, .int .i64 k0] w (Mk s k0 w) := by
  have HT := Lib.hid hT
  clear hT
  go_enter Tryd.func48, Tryd.ntmps48
  go_wp2_with fail
  refine (new7 _).mono ?_
  rintro e w1 ⟨k, mu, hm, ms, rfl, hL, hb1⟩
  have HL := Lib.hid hL
  have HB1 := Lib.hid hb1
  have hz1 := hb1.size
  clear hL hb1
  unfold logV
  go_upto_region 2 with fail
  generalize hV : w1.alloc _ = V
  have hbV : Below w1.heap.size w1 V := by rw [← hV]; exact (Below.refl _ _).alloc (Nat.le_refl _) _
  have HO : Hid (Own V w1.heap.size 64 #[.bool false, .func (.func 78) #[] #[.pointer (some ⟨k, 0, none⟩), .pointer (some ⟨mu, 0, none⟩), .pointer (some ⟨hm, 0, none⟩), .pointer (some ⟨ms, 0, none⟩)], .func (.func 81) #[] #[.pointer (some ⟨mu, 0, none⟩), .pointer (some ⟨hm, 0, none⟩)], .func (.func 82) #[] #[.pointer (some ⟨mu, 0, none⟩), .pointer (some ⟨ms, 0, none⟩)], .func (.func 83) #[] #[.pointer (some ⟨mu, 0, none⟩), .pointer (some ⟨ms, 0, none⟩)], .int .i8 3, .map none, .string ⟨#[]⟩, .string ⟨#[]⟩, .string ⟨#[]⟩, .string s, .string ⟨#[]⟩, .string ⟨#[]⟩, .string ⟨#[]⟩, .string ⟨#[]⟩, .int .u8 0, .int .u32 0, .slice none 0 0, .slice none 0 0, .string ⟨#[]⟩, .int .i32 0, .int .i32 0, .string ⟨#[]⟩, .string ⟨#[]⟩, .string ⟨#[]⟩, .int .i32 0, .int .i32 0, .int .i32 0, .int .i32 0, .bool false, .bool false, .bool false, .int .i64 0, .int .i64 0, .int .i32 0, .int .i32 0, .int .i32 0, .int .i32 0, .int .u16 0, .int .u8 0, .int .u8 0]) := Lib.hid (by rw [← hV]; exact Own.new _ _ _)
  have HBV := Lib.hid hbV
  clear hV hbV
  go_wp2_with fail
  refine (trk57 w1.heap.size s ⟨#[]⟩ ⟨#[]⟩ _ _ HO.out rfl rfl rfl).mono ?_
  rintro e w2 ⟨rfl, hb2⟩
  have HO2 := Lib.hid (HO.out.below hb2 HO.out.lt)
  have HB2 : Hid (Below w.heap.size w w2) := Lib.hid (HB1.out.trans ((HBV.out.mono hz1).trans (hb2.mono (Nat.le_trans hz1 HBV.out.size))))
  have HL2 : Hid (LogSt w2 w.heap.size k mu hm ms (.slice none 0 0) 0 []) := Lib.hid (LogSt.below (LogSt.below HL.out HBV.out) hb2)
  clear hb2 HBV HL HB1 HO
  have f0 : ∀ j, w2.frozen? ⟨w1.heap.size, j, none⟩ = false := HO2.out.frozen
  have o22 : w2.cell? ⟨w1.heap.size, 22, none⟩ = some (.string ⟨#[]⟩) := (HO2.out.cell 22).trans rfl
  have o23 : w2.cell? ⟨w1.heap.size, 23, none⟩ = some (.string ⟨#[]⟩) := (HO2.out.cell 23).trans rfl
  have o24 : w2.cell? ⟨w1.heap.size, 24, none⟩ = some (.string ⟨#[]⟩) := (HO2.out.cell 24).trans rfl
  have o25 : w2.cell? ⟨w1.heap.size, 25, none⟩ = some (.int .i32 0) := (HO2.out.cell 25).trans rfl
  have o26 : w2.cell? ⟨w1.heap.size, 26, none⟩ = some (.int .i32 0) := (HO2.out.cell 26).trans rfl
  have o27 : w2.cell? ⟨w1.heap.size, 27, none⟩ = some (.int .i32 0) := (HO2.out.cell 27).trans rfl
  have o28 : w2.cell? ⟨w1.heap.size, 28, none⟩ = some (.int .i32 0) := (HO2.out.cell 28).trans rfl
  have o29 : w2.cell? ⟨w1.heap.size, 29, none⟩ = some (.bool false) := (HO2.out.cell 29).trans rfl
  have o30 : w2.cell? ⟨w1.heap.size, 30, none⟩ = some (.bool false) := (HO2.out.cell 30).trans rfl
  have o31 : w2.cell? ⟨w1.heap.size, 31, none⟩ = some (.bool false) := (HO2.out.cell 31).trans rfl
  have o33 : w2.cell? ⟨w1.heap.size, 33, none⟩ = some (.int .i64 0) := (HO2.out.cell 33).trans rfl
  have o36 : w2.cell? ⟨w1.heap.size, 36, none⟩ = some (.int .i32 0) := (HO2.out.cell 36).trans rfl
  unfold trkC
  have i0 : (0 : Int) ≤ (k0 : Int) := by omega
  have i1 : (k0 : Int) ≤ 1048576 := by omega
  go_wp2_with fail
  have hO3 := ((((((((((((HO2.out.set 22 (.string s)).set 23 (.string ⟨#[]⟩)).set 24 (.string ⟨#[]⟩)).set 25 (.int .i32 0)).set 26 (.int .i32 0)).set 27 (.int .i32 0)).set 28 (.int .i32 0)).set 29 (.bool true)).set 30 (.bool false)).set 31 (.bool true)).set 33 (.int .i64 k0)).set 36 (.int .i32 k0))
  have hB3 := ((((((((((((HB2.out.setCell (p := ⟨w1.heap.size, 22, none⟩) hz1 (.string s)).setCell (p := ⟨w1.heap.size, 23, none⟩) hz1 (.string ⟨#[]⟩)).setCell (p := ⟨w1.heap.size, 24, none⟩) hz1 (.string ⟨#[]⟩)).setCell (p := ⟨w1.heap.size, 25, none⟩) hz1 (.int .i32 0)).setCell (p := ⟨w1.heap.size, 26, none⟩) hz1 (.int .i32 0)).setCell (p := ⟨w1.heap.size, 27, none⟩) hz1 (.int .i32 0)).setCell (p := ⟨w1.heap.size, 28, none⟩) hz1 (.int .i32 0)).setCell (p := ⟨w1.heap.size, 29, none⟩) hz1 (.bool true)).setCell (p := ⟨w1.heap.size, 30, none⟩) hz1 (.bool false)).setCell (p := ⟨w1.heap.size, 31, none⟩) hz1 (.bool true)).setCell (p := ⟨w1.heap.size, 33, none⟩) hz1 (.int .i64 k0)).setCell (p := ⟨w1.heap.size, 36, none⟩) hz1 (.int .i32 k0))
  have hG3 : w2.grownBy _ (some w1.heap.size) := (grown_cell (grown_cell (grown_cell (grown_cell (grown_cell (grown_cell (grown_cell (grown_cell (grown_cell (grown_cell (grown_cell (grown_cell (grown_of_below (Below.refl _ _) (some w1.heap.size)) 22 (.string s)) 23 (.string ⟨#[]⟩)) 24 (.string ⟨#[]⟩)) 25 (.int .i32 0)) 26 (.int .i32 0)) 27 (.int .i32 0)) 28 (.int .i32 0)) 29 (.bool true)) 30 (.bool false)) 31 (.bool true)) 33 (.int .i64 k0)) 36 (.int .i32 k0))
  generalize World.setCell _ _ _ = W at hO3 hB3 hG3 ⊢
  simp only [List.setIfInBounds_toArray, List.set_cons_zero, List.set_cons_succ] at hO3
  obtain ⟨cs, HC, hO4⟩ : ∃ cs, Hid (cs = #[.bool false, .func (.func 78) #[] #[.pointer (some ⟨k, 0, none⟩), .pointer (some ⟨mu, 0, none⟩), .pointer (some ⟨hm, 0, none⟩), .pointer (some ⟨ms, 0, none⟩)], .func (.func 81) #[] #[.pointer (some ⟨mu, 0, none⟩), .pointer (some ⟨hm, 0, none⟩)], .func (.func 82) #[] #[.pointer (some ⟨mu, 0, none⟩), .pointer (some ⟨ms, 0, none⟩)], .func (.func 83) #[] #[.pointer (some ⟨mu, 0, none⟩), .pointer (some ⟨ms, 0, none⟩)], .int .i8 3, .map none, .string ⟨#[]⟩, .string ⟨#[]⟩, .string ⟨#[]⟩, .string s, .string ⟨#[]⟩, .string ⟨#[]⟩, .string ⟨#[]⟩, .string ⟨#[]⟩, .int .u8 0, .int .u32 0, .slice none 0 0, .slice none 0 0, .string ⟨#[]⟩, .int .i32 0, .int .i32 0, .string s, .string ⟨#[]⟩, .string ⟨#[]⟩, .int .i32 0, .int .i32 0, .int .i32 0, .int .i32 0, .bool true, .bool false, .bool true, .int .i64 0, .int .i64 k0, .int .i32 0, .int .i32 0, .int .i32 k0, .int .i32 0, .int .u16 0, .int .u8 0, .int .u8 0]) ∧ Own W w1.heap.size 64 cs := ⟨_, Lib.hid rfl, hO3⟩
  clear hO3
  have hL4 := LogSt.grown HL2.out hG3 HO2.out
  have HL4 := Lib.hid hL4
  have HB3 := Lib.hid hB3
  have HO4 := Lib.hid hO4
  clear hL4 hG3 HO2 HL2 f0 o22 o23 o24 o25 o26 o27 o28 o29 o30 o31 o33 o36 hO4 hB3
  have hBB : Hid (BB (fun i : Nat => cs[i]?) s k mu hm ms) := Lib.hid ⟨by rw [HC.out]; rfl, by rw [HC.out]; rfl, by rw [HC.out]; rfl, by rw [HC.out]; rfl, by rw [HC.out]; rfl, by rw [HC.out]; rfl, by rw [HC.out]; rfl, ⟨_, by rw [HC.out]; rfl⟩, ⟨_, by rw [HC.out]; rfl⟩, by rw [HC.out]; rfl, by rw [HC.out]; rfl, by rw [HC.out]; rfl, by rw [HC.out]; rfl, by rw [HC.out]; rfl, by rw [HC.out]; rfl, by rw [HC.out]; rfl⟩
  refine (step25 (B := fun i : Nat => cs[i]?) w1.heap.size s k0 0 0 k0 0 cs W ⟨HO4.out, by rw [HC.out]; rfl, by rw [HC.out]; rfl, by rw [HC.out]; rfl, by rw [HC.out]; rfl, by rw [HC.out]; rfl, by rw [HC.out]; rfl, by rw [HC.out]; rfl, fun i _ _ _ _ => rfl⟩ (tabs_of HT.out hw HB3.out) (Nat.le_trans hw HB3.out.size) hs hk (by omega) (by omega) (by omega) (by omega)).mono ?_
  rintro e w4 ⟨cs', nl', rfl, hl, n0, n1, n2, hf⟩
  have HX : Hid (Mk s k0 w (.returned (.pointer (some ⟨w1.heap.size, 0, none⟩))) w4) := Lib.hid ⟨w1.heap.size, k, mu, hm, ms, _, rfl, hz1, ⟨hk, nl', cs', hl, n0, by omega⟩, LogSt.grown HL4.out (Fr.gr hf) HO4.out, hBB.out, gr_below HB3.out (Nat.le_refl _) (Fr.gr hf) hz1⟩
  clear hl hf n0 n1 n2 HL4 HB3 HO4 HC hBB
  go_wp2_with fail
  go_ret
  exact HX.out
def Done (s : ByteArray) (m : Nat) (w : World) (e : Ending) (w' : World) : Prop := ∃ (kd : Int) (q : Nat), e = .returned (.tuple #[.int .u8 kd, .int .i32 q]) ∧ (kd = 37 ∨ kd = 3) ∧ m + 1 ≤ q ∧ q ≤ s.size ∧ Tp.Good s m q ∧ Below w.heap.size w w'
set_option maxRecDepth 100000 in
set_option maxHeartbeats 4000000 in
theorem url30 (s : ByteArray) (m : Nat) (w : World) (hk : m + 1 ≤ s.size) (hs : s.size ≤ 1048576) (hT : Lib.Utf8Tabs 1 2 w) (hw : 3 ≤ w.heap.size) : Calls Tryd.prog 30 #[.string s, .int .i64 ((m : Int) + 1), .int .i32 m] w (Done s m w) := by
  have HT := Lib.hid hT
  clear hT
  go_enter Tryd.func30, Tryd.ntmps30
  go_wp2_with fail
  refine (mk48 s (m + 1) _ hk hs HT.out hw).mono ?_
  rintro e w1 ⟨g, k, mu, hm, ms, B, rfl, hg, hA, hL, hB, hb1⟩
  have HA := Lib.hid hA
  have HL := Lib.hid hL
  have HB := Lib.hid hB
  have HB1 := Lib.hid hb1
  have hz1 := hb1.size
  clear hA hL hB hb1
  go_wp2_with fail
  refine (url49 g s m w.heap.size (m + 1) k mu hm ms w1 HA.out HL.out HB.out (tabs_of HT.out hw HB1.out) hw hg hs (Nat.le_refl _)).mono ?_
  rintro e w2 ⟨kd, q, B2, rfl, hkd, hA2, hq, hgd, hb2⟩
  have hz2 := hb2.size
  have c36 := hA2.cell36
  have c37 := hA2.cell37
  have hqs := hA2.hq
  have HX : Hid (Tp.Good s m q ∧ Below w.heap.size w w2) := Lib.hid ⟨hgd, HB1.out.trans hb2⟩
  have HKD := Lib.hid hkd
  clear hA2 hb2 hgd HA HL HB HB1 hkd
  go_wp2_with fail
  refine (end44 _ _ (by omega) (by omega) (by omega) (by omega) _).mono ?_
  rintro e w3 ⟨rfl, hb3⟩
  rw [show (m : Int) + 1 + ((q : Int) - ((m : Int) + 1)) = (q : Int) by omega]
  have hb4 := HX.out.2.trans (hb3.mono (Nat.le_trans hz1 hz2))
  clear hb3 c36 c37
  go_wp2_with fail
  go_returns
  exact ⟨kd, q, rfl, HKD.out, hq, hqs, HX.out.1, hb4⟩
end Go.Proofs.YtcljenkgbbbfpaaDoor.Tq
