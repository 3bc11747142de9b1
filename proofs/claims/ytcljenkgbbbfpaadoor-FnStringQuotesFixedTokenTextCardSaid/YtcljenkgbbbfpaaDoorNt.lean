/-
  Proved: Tokenize at a text of one token gives that token. Conditions: those that each theorem names as its hypotheses, and no others.
-/
import Derived.Test.YtcljenkgbbbfpaaDoorNx
import Derived.Test.YtcljenkgbbbfpaaDoorHo
import Derived.Deep.CutRange
import Derived.BigRegion
import Derived.LoopN
import Derived.Laws.Cover3
import Derived.Laws.Tables
import Derived.Laws.CopyRow
import Derived.Laws.CopyOwn
import Derived.Laws.EntriesVeiled
import Derived.Deep.RegionHeld3
import Derived.Deep.RegionLaw
namespace Go.Proofs.YtcljenkgbbbfpaaDoor.Nt
open Go.RowKit Go.PlainAid Str Mem De Lu Dw Cu Rws Nx
set_option linter.unusedVariables false
set_option linter.unusedSimpArgs false
def trkC (s a b : ByteArray) (t : Bool) : Array Value := #[.string s, .string a, .string b, .int .i32 0, .int .i32 0, .int .i32 0, .int .i32 0, .bool true, .bool false, .bool t]
def Giv (v : Value) (w : World) (e : Ending) (w' : World) : Prop := e = .returned v ∧ Below w.heap.size w w'
set_option maxRecDepth 100000 in
set_option maxHeartbeats 4000000 in
theorem trk57 (g : Nat) (s a b : ByteArray) (cs : Array Value) (w : World) (hp : Own w g 56 cs) (h7 : cs[0]? = some (.string a)) (h8 : cs[1]? = some (.string b)) (h10 : cs[3]? = some (.string s)) : Calls Tryd.prog 57 #[.pointer (some ⟨g, 0, none⟩)] w (Giv (.agg (trkC s a b true)) w) := by
  have HP := Lib.hid hp
  have H7 := Lib.hid h7
  have H8 := Lib.hid h8
  have H10 := Lib.hid h10
  clear hp h7 h8 h10
  go_enter Tryd.func57, Tryd.ntmps57
  go_upto_region 3 with fail
  generalize hW : w.alloc _ = W
  have hb : Below w.heap.size w W := by rw [← hW]; exact (Below.refl _ _).alloc (Nat.le_refl _) _
  have ho : Own W w.heap.size 62 #[.string ⟨#[]⟩, .string ⟨#[]⟩, .string ⟨#[]⟩, .int .i32 0, .int .i32 0, .int .i32 0, .int .i32 0, .bool false, .bool false, .bool false] := by rw [← hW]; exact Own.new _ _ _
  have hp := HP.out.below hb HP.out.lt
  have c0 : W.cell? ⟨g, 0, none⟩ = some (.string a) := (hp.cell 0).trans H7.out
  have c1 : W.cell? ⟨g, 1, none⟩ = some (.string b) := (hp.cell 1).trans H8.out
  have c2 : W.cell? ⟨g, 3, none⟩ = some (.string s) := (hp.cell 3).trans H10.out
  have f0 : ∀ j, W.frozen? ⟨w.heap.size, j, none⟩ = false := ho.frozen
  have o0 : W.cell? ⟨w.heap.size, 0, none⟩ = some (.string ⟨#[]⟩) := (ho.cell 0).trans rfl
  have o1 : W.cell? ⟨w.heap.size, 1, none⟩ = some (.string ⟨#[]⟩) := (ho.cell 1).trans rfl
  have o2 : W.cell? ⟨w.heap.size, 2, none⟩ = some (.string ⟨#[]⟩) := (ho.cell 2).trans rfl
  have o3 : W.cell? ⟨w.heap.size, 3, none⟩ = some (.int .i32 0) := (ho.cell 3).trans rfl
  have o4 : W.cell? ⟨w.heap.size, 4, none⟩ = some (.int .i32 0) := (ho.cell 4).trans rfl
  have o5 : W.cell? ⟨w.heap.size, 5, none⟩ = some (.int .i32 0) := (ho.cell 5).trans rfl
  have o6 : W.cell? ⟨w.heap.size, 6, none⟩ = some (.int .i32 0) := (ho.cell 6).trans rfl
  have o7 : W.cell? ⟨w.heap.size, 7, none⟩ = some (.bool false) := (ho.cell 7).trans rfl
  have o8 : W.cell? ⟨w.heap.size, 8, none⟩ = some (.bool false) := (ho.cell 8).trans rfl
  have o9 : W.cell? ⟨w.heap.size, 9, none⟩ = some (.bool false) := (ho.cell 9).trans rfl
  go_region
  have hb9 := ((((((((((hb.setCell (p := ⟨w.heap.size, 0, none⟩) (Nat.le_refl _) (.string s)).setCell (p := ⟨w.heap.size, 1, none⟩) (Nat.le_refl _) (.string a)).setCell (p := ⟨w.heap.size, 2, none⟩) (Nat.le_refl _) (.string b)).setCell (p := ⟨w.heap.size, 3, none⟩) (Nat.le_refl _) (.int .i32 0)).setCell (p := ⟨w.heap.size, 4, none⟩) (Nat.le_refl _) (.int .i32 0)).setCell (p := ⟨w.heap.size, 5, none⟩) (Nat.le_refl _) (.int .i32 0)).setCell (p := ⟨w.heap.size, 6, none⟩) (Nat.le_refl _) (.int .i32 0)).setCell (p := ⟨w.heap.size, 7, none⟩) (Nat.le_refl _) (.bool true)).setCell (p := ⟨w.heap.size, 8, none⟩) (Nat.le_refl _) (.bool false)).setCell (p := ⟨w.heap.size, 9, none⟩) (Nat.le_refl _) (.bool true)).drew
  have h9 := ((((((((((ho.set 0 (.string s)).set 1 (.string a)).set 2 (.string b)).set 3 (.int .i32 0)).set 4 (.int .i32 0)).set 5 (.int .i32 0)).set 6 (.int .i32 0)).set 7 (.bool true)).set 8 (.bool false)).set 9 (.bool true)).drew
  generalize hV : World.drew _ = V at hb9 h9 ⊢
  have ho9 : Own V w.heap.size 62 (trkC s a b true) := by
    have e := h9
    simp only [List.setIfInBounds_toArray, List.set_cons_zero, List.set_cons_succ] at e
    exact e
  have t0 : V.cell? ⟨w.heap.size, 0, none⟩ = some (.string s) := (ho9.cell 0).trans rfl
  have t1 : V.cell? ⟨w.heap.size, 1, none⟩ = some (.string a) := (ho9.cell 1).trans rfl
  have t2 : V.cell? ⟨w.heap.size, 2, none⟩ = some (.string b) := (ho9.cell 2).trans rfl
  have t3 : V.cell? ⟨w.heap.size, 3, none⟩ = some (.int .i32 0) := (ho9.cell 3).trans rfl
  have t4 : V.cell? ⟨w.heap.size, 4, none⟩ = some (.int .i32 0) := (ho9.cell 4).trans rfl
  have t5 : V.cell? ⟨w.heap.size, 5, none⟩ = some (.int .i32 0) := (ho9.cell 5).trans rfl
  have t6 : V.cell? ⟨w.heap.size, 6, none⟩ = some (.int .i32 0) := (ho9.cell 6).trans rfl
  have t7 : V.cell? ⟨w.heap.size, 7, none⟩ = some (.bool true) := (ho9.cell 7).trans rfl
  have t8 : V.cell? ⟨w.heap.size, 8, none⟩ = some (.bool false) := (ho9.cell 8).trans rfl
  have t9 : V.cell? ⟨w.heap.size, 9, none⟩ = some (.bool true) := (ho9.cell 9).trans rfl
  clear hV h9 ho9 ho hb hp hW f0 c0 c1 c2 o0 o1 o2 o3 o4 o5 o6 o7 o8 o9
  go_wp2
  refine bodyPost_ret (v := .agg (trkC s a b true)) (by simp [results, Tryd.results57, go_sem, trkC, t0, t1, t2, t3, t4, t5, t6, t7, t8, t9]) rfl ⟨rfl, hb9⟩
def LOG : Array Value := #[.nilFunc, .nilFunc, .nilFunc, .nilFunc, .int .i8 0, .map none]
def SRC (s : ByteArray) : Array Value := #[.string ⟨#[]⟩, .string ⟨#[]⟩, .string ⟨#[]⟩, .string s, .string ⟨#[]⟩, .string ⟨#[]⟩, .string ⟨#[]⟩, .string ⟨#[]⟩, .int .u8 0, .int .u32 0]
structure Bx (gL gS gO : Nat) (s : ByteArray) (w : World) : Prop where
  l0 : w.cell? ⟨gL, 0, none⟩ = some (.nilFunc)
  l1 : w.cell? ⟨gL, 1, none⟩ = some (.nilFunc)
  l2 : w.cell? ⟨gL, 2, none⟩ = some (.nilFunc)
  l3 : w.cell? ⟨gL, 3, none⟩ = some (.nilFunc)
  l4 : w.cell? ⟨gL, 4, none⟩ = some (.int .i8 0)
  l5 : w.cell? ⟨gL, 5, none⟩ = some (.map none)
  s0 : w.cell? ⟨gS, 0, none⟩ = some (.string ⟨#[]⟩)
  s1 : w.cell? ⟨gS, 1, none⟩ = some (.string ⟨#[]⟩)
  s2 : w.cell? ⟨gS, 2, none⟩ = some (.string ⟨#[]⟩)
  s3 : w.cell? ⟨gS, 3, none⟩ = some (.string s)
  s4 : w.cell? ⟨gS, 4, none⟩ = some (.string ⟨#[]⟩)
  s5 : w.cell? ⟨gS, 5, none⟩ = some (.string ⟨#[]⟩)
  s6 : w.cell? ⟨gS, 6, none⟩ = some (.string ⟨#[]⟩)
  s7 : w.cell? ⟨gS, 7, none⟩ = some (.string ⟨#[]⟩)
  s8 : w.cell? ⟨gS, 8, none⟩ = some (.int .u8 0)
  s9 : w.cell? ⟨gS, 9, none⟩ = some (.int .u32 0)
  o0 : w.cell? ⟨gO, 0, none⟩ = some (.bool false)
theorem bx {gL gS gO : Nat} {s : ByteArray} {w : World} (hl : Own w gL 46 #[.nilFunc, .nilFunc, .nilFunc, .nilFunc, .int .i8 0, .map none]) (hs : Own w gS 56 #[.string ⟨#[]⟩, .string ⟨#[]⟩, .string ⟨#[]⟩, .string s, .string ⟨#[]⟩, .string ⟨#[]⟩, .string ⟨#[]⟩, .string ⟨#[]⟩, .int .u8 0, .int .u32 0]) (ho : Own w gO 38 #[.bool false]) : Bx gL gS gO s w :=
  ⟨(hl.cell 0).trans rfl, (hl.cell 1).trans rfl, (hl.cell 2).trans rfl, (hl.cell 3).trans rfl, (hl.cell 4).trans rfl, (hl.cell 5).trans rfl, (hs.cell 0).trans rfl, (hs.cell 1).trans rfl, (hs.cell 2).trans rfl, (hs.cell 3).trans rfl, (hs.cell 4).trans rfl, (hs.cell 5).trans rfl, (hs.cell 6).trans rfl, (hs.cell 7).trans rfl, (hs.cell 8).trans rfl, (hs.cell 9).trans rfl, (ho.cell 0).trans rfl⟩
theorem bxb {gL gS gO : Nat} {s : ByteArray} {w w' : World} (hb : Below w.heap.size w w') (hl : Own w gL 46 #[.nilFunc, .nilFunc, .nilFunc, .nilFunc, .int .i8 0, .map none]) (hs : Own w gS 56 #[.string ⟨#[]⟩, .string ⟨#[]⟩, .string ⟨#[]⟩, .string s, .string ⟨#[]⟩, .string ⟨#[]⟩, .string ⟨#[]⟩, .string ⟨#[]⟩, .int .u8 0, .int .u32 0]) (ho : Own w gO 38 #[.bool false]) : Bx gL gS gO s w' :=
  bx (hl.below hb hl.lt) (hs.below hb hs.lt) (ho.below hb ho.lt)
theorem Bx.below {gL gS gO : Nat} {s : ByteArray} {w w' : World} (h : Bx gL gS gO s w) (hb : Below w.heap.size w w') (hL : gL < w.heap.size) (hS : gS < w.heap.size) (hO : gO < w.heap.size) : Bx gL gS gO s w' :=
  ⟨(hb.cell (p := ⟨gL, 0, none⟩) hL).trans h.l0, (hb.cell (p := ⟨gL, 1, none⟩) hL).trans h.l1, (hb.cell (p := ⟨gL, 2, none⟩) hL).trans h.l2, (hb.cell (p := ⟨gL, 3, none⟩) hL).trans h.l3, (hb.cell (p := ⟨gL, 4, none⟩) hL).trans h.l4, (hb.cell (p := ⟨gL, 5, none⟩) hL).trans h.l5, (hb.cell (p := ⟨gS, 0, none⟩) hS).trans h.s0, (hb.cell (p := ⟨gS, 1, none⟩) hS).trans h.s1, (hb.cell (p := ⟨gS, 2, none⟩) hS).trans h.s2, (hb.cell (p := ⟨gS, 3, none⟩) hS).trans h.s3, (hb.cell (p := ⟨gS, 4, none⟩) hS).trans h.s4, (hb.cell (p := ⟨gS, 5, none⟩) hS).trans h.s5, (hb.cell (p := ⟨gS, 6, none⟩) hS).trans h.s6, (hb.cell (p := ⟨gS, 7, none⟩) hS).trans h.s7, (hb.cell (p := ⟨gS, 8, none⟩) hS).trans h.s8, (hb.cell (p := ⟨gS, 9, none⟩) hS).trans h.s9, (hb.cell (p := ⟨gO, 0, none⟩) hO).trans h.o0⟩
theorem le_alloc (W : World) (o : Obj) : W.heap.size ≤ (W.alloc o).heap.size := by rw [World.size_alloc]; exact Nat.le_succ _
def Z41 : Array Value := #[.bool false, .nilFunc, .nilFunc, .nilFunc, .nilFunc, .int .i8 0, .map none, .string ⟨#[]⟩, .string ⟨#[]⟩, .string ⟨#[]⟩, .string ⟨#[]⟩, .string ⟨#[]⟩, .string ⟨#[]⟩, .string ⟨#[]⟩, .string ⟨#[]⟩, .int .u8 0, .int .u32 0, .slice none 0 0, .slice none 0 0, .string ⟨#[]⟩, .int .i32 0, .int .i32 0, .string ⟨#[]⟩, .string ⟨#[]⟩, .string ⟨#[]⟩, .int .i32 0, .int .i32 0, .int .i32 0, .int .i32 0, .bool false, .bool false, .bool false, .int .i64 0, .int .i64 0, .int .i32 0, .int .i32 0, .int .i32 0, .int .i32 0, .int .u16 0, .int .u8 0, .int .u8 0]
theorem lx_one (s : ByteArray) (nl cur cp ts tl kd : Int) : (lxC s nl cur cp ts tl kd).all (·.oneCell') = true := by
  unfold lxC
  simp [Value.oneCell']
theorem i64 : (Tryd.prog.info? 64).map (·.size) = some 41 := by kernel_rfl
structure Sx (gL gS gO : Nat) (s : ByteArray) (V : World) : Prop where
  l : Own V gL 46 #[.nilFunc, .nilFunc, .nilFunc, .nilFunc, .int .i8 0, .map none]
  r : Own V gS 56 #[.string ⟨#[]⟩, .string ⟨#[]⟩, .string ⟨#[]⟩, .string s, .string ⟨#[]⟩, .string ⟨#[]⟩, .string ⟨#[]⟩, .string ⟨#[]⟩, .int .u8 0, .int .u32 0]
  o : Own V gO 38 #[.bool false]
theorem Sx.cells {gL gS gO : Nat} {s : ByteArray} {V : World} (h : Sx gL gS gO s V) : Bx gL gS gO s V := bx h.l h.r h.o
theorem Sx.drew {gL gS gO : Nat} {s : ByteArray} {V : World} (h : Sx gL gS gO s V) : Sx gL gS gO s V.drew := ⟨h.l.drew, h.r.drew, h.o.drew⟩
theorem Sx.alloc {gL gS gO : Nat} {s : ByteArray} {V : World} (h : Sx gL gS gO s V) (x : Obj) : Sx gL gS gO s (V.alloc x) := ⟨h.l.alloc x, h.r.alloc x, h.o.alloc x⟩
theorem Sx.below {gL gS gO : Nat} {s : ByteArray} {V V1 : World} (h : Sx gL gS gO s V) (hb : Below V.heap.size V V1) : Sx gL gS gO s V1 := ⟨h.l.below hb h.l.lt, h.r.below hb h.r.lt, h.o.below hb h.o.lt⟩
theorem Sx.lt {gL gS gO : Nat} {s : ByteArray} {V : World} (h : Sx gL gS gO s V) : gL < V.heap.size ∧ gS < V.heap.size ∧ gO < V.heap.size := ⟨h.l.lt, h.r.lt, h.o.lt⟩
theorem ownRow {V : World} {g b : Nat} {t : TypeId} {cs : Array Value} (hn : b ≠ g) (h : Own V b t cs) (xs : Array Value) : Own (V.setRow g xs) b t cs := (setRow_other V g b xs hn).trans h
theorem Sx.row {gL gS gO g : Nat} {s : ByteArray} {V : World} (h : Sx gL gS gO s V) (h1 : gL ≠ g) (h2 : gS ≠ g) (h3 : gO ≠ g) (xs : Array Value) : Sx gL gS gO s (V.setRow g xs) := ⟨ownRow h1 h.l xs, ownRow h2 h.r xs, ownRow h3 h.o xs⟩
theorem below_undrew {B : Nat} {V V1 : World} (h : Below B V.drew V1) : Below B V V1 := ⟨h.os, h.tape, h.output, h.size, h.block⟩
theorem lt_alloc (W : World) (o : Obj) : W.heap.size < (W.alloc o).heap.size := by rw [World.size_alloc]; exact Nat.lt_succ_self _
theorem below_drop {W W1 : World} {o : Obj} (h : Below (W.alloc o).heap.size (W.alloc o) W1) : Below W.heap.size W W1 :=
  ((Below.refl _ _).alloc (Nat.le_refl _) o).trans (h.mono (Nat.le_of_lt (lt_alloc W o)))
set_option maxRecDepth 100000 in
theorem trkX {gL gS gO : Nat} {s : ByteArray} {V : World} (h : Sx gL gS gO s V) : Calls Tryd.prog 57 #[.pointer (some ⟨gS, 0, none⟩)] V (Giv (.agg (trkC s ⟨#[]⟩ ⟨#[]⟩ true)) V) :=
  trk57 gS s ⟨#[]⟩ ⟨#[]⟩ #[.string ⟨#[]⟩, .string ⟨#[]⟩, .string ⟨#[]⟩, .string s, .string ⟨#[]⟩, .string ⟨#[]⟩, .string ⟨#[]⟩, .string ⟨#[]⟩, .int .u8 0, .int .u32 0] V h.r rfl rfl rfl
theorem fr_below {B g : Nat} {a w w' : World} (h : Below B a w) (hBa : B ≤ a.heap.size) (hg : B ≤ g) (f : Fr g w w') : Below B a w' :=
  ⟨f.os.trans h.os, f.tape.trans h.tape, f.output.trans h.output, Nat.le_trans h.size f.size, fun k hk => (f.block k (Nat.lt_of_lt_of_le hk (Nat.le_trans hBa h.size)) (by omega)).trans (h.block k hk)⟩
theorem own_fr {g b : Nat} {t : TypeId} {cs : Array Value} {w w' : World} (h : Own w b t cs) (hb : b ≠ g) (f : Fr g w w') : Own w' b t cs := (f.block b h.lt hb).trans h
structure Tc (g : Nat) (s : ByteArray) (nl ts tl kd : Int) (w : World) : Prop where
  d0 : w.cell? ⟨g, 36, none⟩ = some (.int .i32 ts)
  d1 : w.cell? ⟨g, 37, none⟩ = some (.int .i32 tl)
  d2 : w.cell? ⟨g, 38, none⟩ = some (.int .u16 0)
  d3 : w.cell? ⟨g, 39, none⟩ = some (.int .u8 kd)
  d4 : w.cell? ⟨g, 40, none⟩ = some (.int .u8 0)
  d17 : w.cell? ⟨g, 17, none⟩ = some (.slice none 0 0)
  d18 : w.cell? ⟨g, 18, none⟩ = some (.slice none 0 0)
  d19 : w.cell? ⟨g, 19, none⟩ = some (.string ⟨#[]⟩)
  d20 : w.cell? ⟨g, 20, none⟩ = some (.int .i32 0)
  d21 : w.cell? ⟨g, 21, none⟩ = some (.int .i32 0)
  d32 : w.cell? ⟨g, 32, none⟩ = some (.int .i64 nl)
  fz : ∀ j, w.frozen? ⟨g, j, none⟩ = false
theorem tokc {g : Nat} {s : ByteArray} {nl cur cp ts tl kd : Int} {w : World} (h : Own w g 64 (lxC s nl cur cp ts tl kd)) : Tc g s nl ts tl kd w :=
  ⟨(h.cell 36).trans rfl, (h.cell 37).trans rfl, (h.cell 38).trans rfl, (h.cell 39).trans rfl, (h.cell 40).trans rfl, (h.cell 17).trans rfl, (h.cell 18).trans rfl, (h.cell 19).trans rfl, (h.cell 20).trans rfl, (h.cell 21).trans rfl, (h.cell 32).trans rfl, h.frozen⟩
def Tkz (s : ByteArray) (kd : Int) (w : World) (e : Ending) (w' : World) : Prop :=
  ∃ (h c : Nat) (lc : Int) (t : TypeId) (cs : Array Value), e = .returned (.agg #[.slice (some ⟨h, 0, none⟩) 1 c, .slice none 0 0, .slice none 0 0, .string ⟨#[]⟩, .int .i32 0, .int .i32 0, .int .i32 lc]) ∧ Own w' h t cs ∧ cs[0]? = some (.int .i32 0) ∧ cs[1]? = some (.int .i32 (s.size : Int)) ∧ cs[2]? = some (.int .u16 0) ∧ cs[3]? = some (.int .u8 kd) ∧ cs[4]? = some (.int .u8 0) ∧ Below w.heap.size w w'
set_option maxRecDepth 100000 in
set_option maxHeartbeats 8000000 in
theorem tok46 (s : ByteArray) (c kd : Int) (w : World) (hsz : s.size ≤ 4) (hs0 : 1 ≤ s.size) (hcp : cpOf s 0 = c) (hwd : wdOf s 0 = 1) (hc0 : 0 ≤ c) (hc1 : c ≤ 127) (hk0 : 1 ≤ kd) (hk1 : kd ≤ 255)
    (hN : ∀ (g : Nat) (nl : Int) (w : World), Own w g 64 (lxC s nl 1 c 0 0 0) → 0 ≤ nl → nl ≤ 2 → Lib.Utf8Tabs 1 2 w → 3 ≤ g → 3 ≤ w.heap.size → Calls Tryd.prog 51 #[.pointer (some ⟨g, 0, none⟩)] w (Nxt g s 0 kd w))
    (hT : Lib.Utf8Tabs 1 2 w) (hw : 3 ≤ w.heap.size) :
    Calls Tryd.prog 46 #[.agg #[.nilFunc, .nilFunc, .nilFunc, .nilFunc, .int .i8 0, .map none], .agg #[.string ⟨#[]⟩, .string ⟨#[]⟩, .string ⟨#[]⟩, .string s, .string ⟨#[]⟩, .string ⟨#[]⟩, .string ⟨#[]⟩, .string ⟨#[]⟩, .int .u8 0, .int .u32 0], .agg #[.bool false]] w (Tkz s kd w) := by
  have HN := Lib.hid hN
  have HT := Lib.hid hT
  have HCP := Lib.hid hcp
  have HWD := Lib.hid hwd
  clear hN hT hcp hwd
  go_enter Tryd.func46, Tryd.ntmps46
  go_upto_region 1 with fail
  generalize hW : World.alloc _ _ = W
  have hbW : Below w.heap.size w W := by rw [← hW]; go_grown
  have hsz4 : W.heap.size = w.heap.size + 4 := by rw [← hW]; simp
  have hoL : Own W w.heap.size 46 #[.nilFunc, .nilFunc, .nilFunc, .nilFunc, .int .i8 0, .map none] := by rw [← hW]; exact (((Own.new _ _ _).alloc _).alloc _).alloc _
  have hoS : Own W (w.heap.size + 1) 56 #[.string ⟨#[]⟩, .string ⟨#[]⟩, .string ⟨#[]⟩, .string s, .string ⟨#[]⟩, .string ⟨#[]⟩, .string ⟨#[]⟩, .string ⟨#[]⟩, .int .u8 0, .int .u32 0] := by
    have e := (((Own.new (w.alloc (Obj.cells #[.nilFunc, .nilFunc, .nilFunc, .nilFunc, .int .i8 0, .map none] 46)) 56 #[.string ⟨#[]⟩, .string ⟨#[]⟩, .string ⟨#[]⟩, .string s, .string ⟨#[]⟩, .string ⟨#[]⟩, .string ⟨#[]⟩, .string ⟨#[]⟩, .int .u8 0, .int .u32 0]).alloc (Obj.cells #[.bool false] 38)).alloc (Obj.cells #[.slice none 0 0, .slice none 0 0, .slice none 0 0, .string ⟨#[]⟩, .int .i32 0, .int .i32 0, .int .i32 0] 78))
    rw [World.size_alloc] at e
    rw [← hW]; exact e
  have hoO : Own W (w.heap.size + 1 + 1) 38 #[.bool false] := by
    have e := ((Own.new ((w.alloc (Obj.cells #[.nilFunc, .nilFunc, .nilFunc, .nilFunc, .int .i8 0, .map none] 46)).alloc (Obj.cells #[.string ⟨#[]⟩, .string ⟨#[]⟩, .string ⟨#[]⟩, .string s, .string ⟨#[]⟩, .string ⟨#[]⟩, .string ⟨#[]⟩, .string ⟨#[]⟩, .int .u8 0, .int .u32 0] 56)) 38 #[.bool false]).alloc (Obj.cells #[.slice none 0 0, .slice none 0 0, .slice none 0 0, .string ⟨#[]⟩, .int .i32 0, .int .i32 0, .int .i32 0] 78))
    rw [World.size_alloc, World.size_alloc] at e
    rw [← hW]; exact e
  have hoR : Own W (w.heap.size + 1 + 1 + 1) 78 #[.slice none 0 0, .slice none 0 0, .slice none 0 0, .string ⟨#[]⟩, .int .i32 0, .int .i32 0, .int .i32 0] := by
    have e := (Own.new (((w.alloc (Obj.cells #[.nilFunc, .nilFunc, .nilFunc, .nilFunc, .int .i8 0, .map none] 46)).alloc (Obj.cells #[.string ⟨#[]⟩, .string ⟨#[]⟩, .string ⟨#[]⟩, .string s, .string ⟨#[]⟩, .string ⟨#[]⟩, .string ⟨#[]⟩, .string ⟨#[]⟩, .int .u8 0, .int .u32 0] 56)).alloc (Obj.cells #[.bool false] 38)) 78 #[.slice none 0 0, .slice none 0 0, .slice none 0 0, .string ⟨#[]⟩, .int .i32 0, .int .i32 0, .int .i32 0])
    rw [World.size_alloc, World.size_alloc, World.size_alloc] at e
    rw [← hW]; exact e
  clear hW
  generalize hgL : w.heap.size = gL at *
  generalize hgS : gL + 1 = gS at *
  generalize hgO : gS + 1 = gO at *
  generalize hgR : gO + 1 = gR at *
  have HoS := Lib.hid hoS
  have HoL := Lib.hid hoL
  have HoO := Lib.hid hoO
  have HoR := Lib.hid hoR
  have HbW := Lib.hid hbW
  have HB : Hid (Bx gL gS gO s W) := Lib.hid (bx hoL hoS hoO)
  have lL := hoL.lt
  have lS := hoS.lt
  have lO := hoO.lt
  have hLW : gL + 3 ≤ W.heap.size := by omega
  clear hoL hoS hoO hoR hbW hsz4
  go_cut [7] from 14 to 18 (fun p wx => ∃ g, p = .pointer (some ⟨g, 0, none⟩) ∧ Hid (Own wx g 64 (lxC s 0 0 0 0 0 0)) ∧ W.heap.size ≤ g ∧ Hid (Below W.heap.size W wx))
  case first =>
    have hS0 : Sx gL gS gO s W := ⟨HoL.out, HoS.out, HoO.out⟩
    have HS0 := Lib.hid hS0
    clear hS0
    refine wp_region_held_drew (S := Sx gL gS gO s) (by kernel_rfl) HS0.out.drew (fun hHeld => ?_)
    clear hHeld
    refine wpAnyH_take (i := 0) (oi := { dst := some 14, op := Op.load 38 (Operand.tmp 5), type := 38, pos := "css_lexer.go:208", after := #[], guard := none }) (v := .agg #[.bool false]) rfl (by kernel_rfl) (by kernel_rfl) (by kernel_rfl) (fun _ _ _ h => h) (Or.inl ⟨by rfl, ?_⟩) HS0.out.drew ?_
    · intro V hV
      obtain ⟨l0, l1, l2, l3, l4, l5, s0, s1, s2, s3, s4, s5, s6, s7, s8, s9, o0⟩ := hV.cells
      clear hV
      go_simp
    try simp only [Act.put, List.setIfInBounds_toArray, List.set_cons_zero, List.set_cons_succ]
    refine wpAnyH_take (i := 1) (oi := { dst := some 15, op := Op.load 46 (Operand.tmp 3), type := 46, pos := "css_lexer.go:208", after := #[], guard := none }) (v := .agg #[.nilFunc, .nilFunc, .nilFunc, .nilFunc, .int .i8 0, .map none]) rfl (by kernel_rfl) (by kernel_rfl) (by kernel_rfl) (fun _ _ _ h => h) (Or.inl ⟨by rfl, ?_⟩) HS0.out.drew ?_
    · intro V hV
      obtain ⟨l0, l1, l2, l3, l4, l5, s0, s1, s2, s3, s4, s5, s6, s7, s8, s9, o0⟩ := hV.cells
      clear hV
      go_simp
    try simp only [Act.put, List.setIfInBounds_toArray, List.set_cons_zero, List.set_cons_succ]
    refine wpAnyH_take (i := 2) (oi := { dst := some 16, op := Op.load 56 (Operand.tmp 4), type := 56, pos := "css_lexer.go:208", after := #[], guard := none }) (v := .agg #[.string ⟨#[]⟩, .string ⟨#[]⟩, .string ⟨#[]⟩, .string s, .string ⟨#[]⟩, .string ⟨#[]⟩, .string ⟨#[]⟩, .string ⟨#[]⟩, .int .u8 0, .int .u32 0]) rfl (by kernel_rfl) (by kernel_rfl) (by kernel_rfl) (fun _ _ _ h => h) (Or.inl ⟨by rfl, ?_⟩) HS0.out.drew ?_
    · intro V hV
      obtain ⟨l0, l1, l2, l3, l4, l5, s0, s1, s2, s3, s4, s5, s6, s7, s8, s9, o0⟩ := hV.cells
      clear hV
      go_simp
    try simp only [Act.put, List.setIfInBounds_toArray, List.set_cons_zero, List.set_cons_succ]
    refine wpAnyH_ready (rs := [3, 5]) (by kernel_rfl) (by simp) ?_
    refine AllReadyH.cons (o := { dst := some 17, op := Op.call { callee := Callee.value (Operand.func 57), args := #[Operand.tmp 4], argTypes := #[109] }, type := 62, pos := "css_lexer.go:212", after := #[], guard := none }) rfl (fun K hK => ?_) ?_
    · go_simp
      go_at_call 57
      refine (trkX HS0.out.drew).mono ?_
      rintro e w1 ⟨rfl, hb1⟩
      unfold trkC
      go_wp2_with fail
      have hz1 : W.heap.size ≤ w1.heap.size := hb1.size
      have HS1 := Lib.hid (HS0.out.drew.below hb1)
      have HB1 := Lib.hid (below_undrew hb1)
      clear hb1
      refine hK.out _ _ HS1.out (fun hHeld => ?_)
      clear hHeld hK K
      try simp only [Act.put, List.setIfInBounds_toArray, List.set_cons_zero, List.set_cons_succ]
      refine wpAnyH_take (i := 4) (oi := { dst := some 18, op := Op.build 64 #[(0, Operand.tmp 14), (1, Operand.tmp 15), (2, Operand.tmp 16), (6, Operand.tmp 17)], type := 64, pos := "css_lexer.go:208", after := #[{ on := 0, ground := Ground.data }, { on := 1, ground := Ground.data }, { on := 2, ground := Ground.data }, { on := 3, ground := Ground.data }], guard := none }) (v := .agg (lxC s 0 0 0 0 0 0)) rfl (by kernel_rfl) (by kernel_rfl) (by kernel_rfl) (fun _ _ _ h => h) (Or.inl ⟨by rfl, ?_⟩) HS1.out ?_
      · intro V hV
        unfold lxC
        go_simp
      try simp only [Act.put, List.setIfInBounds_toArray, List.set_cons_zero, List.set_cons_succ]
      refine wpAnyH_ready (rs := [5]) (by kernel_rfl) (by simp) ?_
      refine AllReadyH.cons (o := { dst := some 7, op := Op.alloc 64, type := 0, pos := "css_lexer.go:208", after := #[], guard := none }) rfl (fun K hK => ?_) ?_
      · go_simp
        refine hK.out _ _ (HS1.out.alloc _) (fun hHeld => ?_)
        clear hHeld hK K
        try simp only [Act.put, List.setIfInBounds_toArray, List.set_cons_zero, List.set_cons_succ]
        refine wpAnyH_ready (rs := [6]) (by kernel_rfl) (by simp) ?_
        refine AllReadyH.cons (o := { dst := none, op := Op.store 64 (Operand.tmp 7) (Operand.tmp 18), type := 0, pos := "css_lexer.go:208", after := #[{ on := 5, ground := Ground.data }, { on := 4, ground := Ground.data }, { on := 3, ground := Ground.chain }, { on := 0, ground := Ground.phase }, { on := 1, ground := Ground.phase }, { on := 2, ground := Ground.phase }, { on := 3, ground := Ground.phase }, { on := 4, ground := Ground.phase }, { on := 5, ground := Ground.phase }], guard := none }) rfl (fun K hK => ?_) ?_
        · rw [if_pos (by rfl)]
          refine wp_store_row 64 _ _ rfl w1.heap.size (lxC s 0 0 0 0 0 0) rfl rfl 64 _ (Own.new w1 64 _) i64 rfl (lx_one s 0 0 0 0 0 0) ?_
          refine hK.out _ _ ((HS1.out.alloc _).row (by have := HS1.out.lt; omega) (by have := HS1.out.lt; omega) (by have := HS1.out.lt; omega) _) (fun hHeld => ?_)
          clear hHeld hK K
          try simp only [Act.put, List.setIfInBounds_toArray, List.set_cons_zero, List.set_cons_succ]
          refine wpAnyH_done (by kernel_rfl) ?_ _
          go_wp2_with fail
          go_meet
          exact ⟨w1.heap.size, rfl, Lib.hid (setRow_heap _ _ _ _ 64 (0, 0) (Own.new w1 64 _)), hz1, Lib.hid (below_setRow (HB1.out.alloc hz1 _) hz1 _)⟩
        · exact AllReadyH.nil
      · exact AllReadyH.nil
    refine AllReadyH.cons (o := { dst := some 7, op := Op.alloc 64, type := 0, pos := "css_lexer.go:208", after := #[], guard := none }) rfl (fun K hK => ?_) ?_
    · go_simp
      refine hK.out _ _ (HS0.out.alloc _).drew (fun hHeld => ?_)
      clear hHeld hK K
      try simp only [Act.put, List.setIfInBounds_toArray, List.set_cons_zero, List.set_cons_succ]
      refine wpAnyH_ready (rs := [3]) (by kernel_rfl) (by simp) ?_
      refine AllReadyH.cons (o := { dst := some 17, op := Op.call { callee := Callee.value (Operand.func 57), args := #[Operand.tmp 4], argTypes := #[109] }, type := 62, pos := "css_lexer.go:212", after := #[], guard := none }) rfl (fun K hK => ?_) ?_
      · go_simp
        go_at_call 57
        refine (trkX (HS0.out.alloc _).drew).mono ?_
        rintro e w1 ⟨rfl, hb1⟩
        unfold trkC
        go_wp2_with fail
        have hz1 : W.heap.size ≤ w1.heap.size := Nat.le_trans (le_alloc W _) hb1.size
        have HS1 := Lib.hid ((HS0.out.alloc _).drew.below hb1)
        have HT1 : Hid (Own w1 W.heap.size 64 Z41) := Lib.hid (Own.below (Own.drew (Own.new W 64 _)) hb1 (lt_alloc W _))
        have HB1 := Lib.hid (below_drop (below_undrew hb1))
        clear hb1
        refine hK.out _ _ HS1.out (fun hHeld => ?_)
        clear hHeld hK K
        try simp only [Act.put, List.setIfInBounds_toArray, List.set_cons_zero, List.set_cons_succ]
        refine wpAnyH_take (i := 4) (oi := { dst := some 18, op := Op.build 64 #[(0, Operand.tmp 14), (1, Operand.tmp 15), (2, Operand.tmp 16), (6, Operand.tmp 17)], type := 64, pos := "css_lexer.go:208", after := #[{ on := 0, ground := Ground.data }, { on := 1, ground := Ground.data }, { on := 2, ground := Ground.data }, { on := 3, ground := Ground.data }], guard := none }) (v := .agg (lxC s 0 0 0 0 0 0)) rfl (by kernel_rfl) (by kernel_rfl) (by kernel_rfl) (fun _ _ _ h => h) (Or.inl ⟨by rfl, ?_⟩) HS1.out ?_
        · intro V hV
          unfold lxC
          go_simp
        try simp only [Act.put, List.setIfInBounds_toArray, List.set_cons_zero, List.set_cons_succ]
        refine wpAnyH_ready (rs := [6]) (by kernel_rfl) (by simp) ?_
        refine AllReadyH.cons (o := { dst := none, op := Op.store 64 (Operand.tmp 7) (Operand.tmp 18), type := 0, pos := "css_lexer.go:208", after := #[{ on := 5, ground := Ground.data }, { on := 4, ground := Ground.data }, { on := 3, ground := Ground.chain }, { on := 0, ground := Ground.phase }, { on := 1, ground := Ground.phase }, { on := 2, ground := Ground.phase }, { on := 3, ground := Ground.phase }, { on := 4, ground := Ground.phase }, { on := 5, ground := Ground.phase }], guard := none }) rfl (fun K hK => ?_) ?_
        · rw [if_pos (by rfl)]
          refine wp_store_row 64 _ _ rfl W.heap.size (lxC s 0 0 0 0 0 0) rfl rfl 64 _ HT1.out i64 rfl (lx_one s 0 0 0 0 0 0) ?_
          refine hK.out _ _ (HS1.out.row (by have := HS0.out.lt; omega) (by have := HS0.out.lt; omega) (by have := HS0.out.lt; omega) _) (fun hHeld => ?_)
          clear hHeld hK K
          try simp only [Act.put, List.setIfInBounds_toArray, List.set_cons_zero, List.set_cons_succ]
          refine wpAnyH_done (by kernel_rfl) ?_ _
          go_wp2_with fail
          go_meet
          exact ⟨W.heap.size, rfl, Lib.hid (setRow_heap _ _ _ _ 64 (0, 0) HT1.out), Nat.le_refl _, Lib.hid (below_setRow HB1.out (Nat.le_refl _) _)⟩
        · exact AllReadyH.nil
      · exact AllReadyH.nil
    exact AllReadyH.nil
  case rest =>
    obtain ⟨g, rfl, hO, hg, hB⟩ := hcut
    have hbx := HbW.out.trans (hB.out.mono (show gL ≤ W.heap.size by omega))
    rw [← hgL] at hbx
    have hw' : 3 ≤ w.heap.size := by rw [hgL]; exact hw
    have HTx := Lib.hid (tabs_of HT.out hw' hbx)
    have hwx := Nat.le_trans hw' hbx.size
    have hg3 : 3 ≤ g := by omega
    have HBx := Lib.hid hbx
    have HR1 := Lib.hid (HoR.out.below hB.out HoR.out.lt)
    have hgR4 : gR < W.heap.size := HoR.out.lt
    clear hbx hB HbW HoR HoS HoL HoO HB
    go_wp2_with fail
    refine (stepC g s 0 0 0 0 0 0 _ hO.out (Nat.zero_le _) HTx.out hwx (by omega) (by omega) (by omega) (by omega) (by omega)).mono ?_
    rintro e w2 ⟨rfl, nl2, m0, m1, hO2, hF2⟩
    rw [HCP.out, HWD.out] at hO2
    have hT2 := Lib.hid (tabs_fr HTx.out hg3 hwx hF2)
    have hw2 := Nat.le_trans hwx hF2.size
    have HB2 := Lib.hid (fr_below HBx.out (Nat.le_refl _) (by omega) hF2)
    have HR2 := Lib.hid (own_fr HR1.out (by omega) hF2)
    have hO2' : Own w2 g 64 (lxC s nl2 1 c 0 0 0) := hO2
    have HO2 := Lib.hid hO2'
    have hc := cells hO2'
    obtain ⟨c10, c33, c35, c36, c37, c38, c39, c40, fz⟩ := hc
    have hne : (c == 65279) = false := beq_eq_false_iff_ne.2 (by omega)
    clear hO2 hO2' hF2 HTx HBx HR1 hO
    go_wp2_with fail
    refine (HN.out g nl2 _ HO2.out (by omega) (by omega) hT2.out hg3 hw2).mono ?_
    rintro e w3 ⟨rfl, nl3, l0, l1, hO3, hF3⟩
    have hT3 := Lib.hid (tabs_fr hT2.out hg3 hw2 hF3)
    have hw3 := Nat.le_trans hw2 hF3.size
    have HB3 := Lib.hid (fr_below HB2.out (Nat.le_refl _) (by omega) hF3)
    have HR3 := Lib.hid (own_fr HR2.out (by omega) hF3)
    have HO3 := Lib.hid hO3
    clear c10 c33 c35 c36 c37 c38 c39 c40 fz HO2 HB2 HR2 hT2 hF3 hO3 HN
    obtain ⟨d0, d1, d2, d3, d4, d17, d18, d19, d20, d21, d32, fz⟩ := tokc HO3.out
    have u58 : Tryd.prog.underlying 58 = some (.slice 111) := Tryd.underlying58
    have hk : (kd == 0) = false := beq_eq_false_iff_ne.2 (by omega)
    go_wp2_with fail
    refine wp_loop_rounds 2 ?_
    rw [rounds_succ]
    go_wp2_with fail
    generalize (Question.appendCap 1 0 36).cut _ = cap
    generalize hW4 : World.drew _ = W4
    have hb4 : Below w3.heap.size w3 W4 := by rw [← hW4]; exact below_drew (((Below.refl _ _).alloc (Nat.le_refl _) _).alloc (le_alloc _ _) _)
    have hA4 : Own W4 (w3.heap.size + 1) 36 (#[Value.int .i32 0, Value.int .i32 (s.size : Int), Value.int .u16 0, Value.int .u8 kd, Value.int .u8 0] ++ Builtin.zeroCells #[Value.int .i32 0, Value.int .i32 0, Value.int .u16 0, Value.int .u8 0, Value.int .u8 0] (cap - 1)) := by
      have e := Own.new (w3.alloc (Obj.cells #[Value.int .i32 0, Value.int .i32 (s.size : Int), Value.int .u16 0, Value.int .u8 kd, Value.int .u8 0] 36)) 36 (#[Value.int .i32 0, Value.int .i32 (s.size : Int), Value.int .u16 0, Value.int .u8 kd, Value.int .u8 0] ++ Builtin.zeroCells #[Value.int .i32 0, Value.int .i32 0, Value.int .u16 0, Value.int .u8 0, Value.int .u8 0] (cap - 1))
      rw [World.size_alloc] at e
      rw [← hW4]; exact e
    have hRz : gR < w3.heap.size := HR3.out.lt
    have hz4 : w3.heap.size + 1 < W4.heap.size := hA4.lt
    have hO4 : Own W4 g 64 (lxC s nl3 (s.size : Int) (-1) 0 (s.size : Int) kd) := by
      have e := HO3.out.below hb4 HO3.out.lt
      rw [Int.sub_zero] at e; exact e
    have hT4 := Lib.hid (tabs_below hT3.out hw3 hb4)
    have hw4 : 3 ≤ W4.heap.size := Nat.le_trans hw3 hb4.size
    have HR4 := Lib.hid (HR3.out.below hb4 HR3.out.lt)
    have HB4 := Lib.hid (HB3.out.trans (hb4.mono (Nat.le_trans (Nat.le_of_lt_succ (Nat.lt_succ_of_le (Nat.le_refl _))) (HB3.out.size))))
    have hgA : g ≠ w3.heap.size + 1 := fun h => by have := HO3.out.lt; omega
    have HA4 := Lib.hid hA4
    clear hW4 hA4 hb4 HB3 HR3 hT3 HO3 d0 d1 d2 d3 d4 d17 d18 d19 d20 d21 d32 fz
    refine (nxE g s nl3 kd _ hO4 l0 l1 (by omega) hT4.out hg3 hw4).mono ?_
    rintro e w5 ⟨rfl, nl5, p0, p1, hO5, hF5⟩
    have HB5 := Lib.hid (fr_below HB4.out (Nat.le_refl _) (by omega) hF5)
    have HR5 := Lib.hid (own_fr HR4.out (by omega) hF5)
    have HA5 := Lib.hid (own_fr HA4.out (Ne.symm hgA) hF5)
    have HAR : w3.heap.size + 1 ≠ gR := fun h => by omega
    clear HB4 HR4 HA4 hF5 hO4 hT4
    obtain ⟨d0, d1, d2, d3, d4, d17, d18, d19, d20, d21, d32, fz⟩ := tokc hO5
    clear hO5
    have r0 : w5.cell? ⟨gR, 0, none⟩ = some (.slice none 0 0) := (HR5.out.cell 0).trans rfl
    have r1 : w5.cell? ⟨gR, 1, none⟩ = some (.slice none 0 0) := (HR5.out.cell 1).trans rfl
    have r2 : w5.cell? ⟨gR, 2, none⟩ = some (.slice none 0 0) := (HR5.out.cell 2).trans rfl
    have r3 : w5.cell? ⟨gR, 3, none⟩ = some (.string ⟨#[]⟩) := (HR5.out.cell 3).trans rfl
    have r4 : w5.cell? ⟨gR, 4, none⟩ = some (.int .i32 0) := (HR5.out.cell 4).trans rfl
    have r5 : w5.cell? ⟨gR, 5, none⟩ = some (.int .i32 0) := (HR5.out.cell 5).trans rfl
    have r6 : w5.cell? ⟨gR, 6, none⟩ = some (.int .i32 0) := (HR5.out.cell 6).trans rfl
    have rf : ∀ j, w5.frozen? ⟨gR, j, none⟩ = false := HR5.out.frozen
    have HA6 : Hid (w3.heap.size + 1 ≠ gR) := Lib.hid HAR
    clear HAR
    go_wp2_with fail
    rw [rounds_succ]
    go_wp2_with fail
    have hO6 := ((((((HR5.out.set 0 (.slice (some ⟨w3.heap.size + 1, 0, none⟩) 1 cap)).set 1 (.slice none 0 0)).set 2 (.slice none 0 0)).set 3 (.string ⟨#[]⟩)).set 4 (.int .i32 0)).set 5 (.int .i32 0)).set 6 (.int .i32 (nl5 + 1))
    have hA6 := ((((((HA5.out.far (p := ⟨gR, 0, none⟩) HA6.out (.slice (some ⟨w3.heap.size + 1, 0, none⟩) 1 cap)).far (p := ⟨gR, 1, none⟩) HA6.out (.slice none 0 0)).far (p := ⟨gR, 2, none⟩) HA6.out (.slice none 0 0)).far (p := ⟨gR, 3, none⟩) HA6.out (.string ⟨#[]⟩)).far (p := ⟨gR, 4, none⟩) HA6.out (.int .i32 0)).far (p := ⟨gR, 5, none⟩) HA6.out (.int .i32 0)).far (p := ⟨gR, 6, none⟩) HA6.out (.int .i32 (nl5 + 1))
    have hgw : w.heap.size ≤ gR := by omega
    have hB6 := ((((((HB5.out.setCell (p := ⟨gR, 0, none⟩) hgw (.slice (some ⟨w3.heap.size + 1, 0, none⟩) 1 cap)).setCell (p := ⟨gR, 1, none⟩) hgw (.slice none 0 0)).setCell (p := ⟨gR, 2, none⟩) hgw (.slice none 0 0)).setCell (p := ⟨gR, 3, none⟩) hgw (.string ⟨#[]⟩)).setCell (p := ⟨gR, 4, none⟩) hgw (.int .i32 0)).setCell (p := ⟨gR, 5, none⟩) hgw (.int .i32 0)).setCell (p := ⟨gR, 6, none⟩) hgw (.int .i32 (nl5 + 1))
    simp only [List.setIfInBounds_toArray, List.set_cons_zero, List.set_cons_succ] at hO6
    generalize World.setCell _ _ _ = V at hO6 hA6 hB6 ⊢
    have t0 : V.cell? ⟨gR, 0, none⟩ = some (.slice (some ⟨w3.heap.size + 1, 0, none⟩) 1 cap) := (hO6.cell 0).trans rfl
    have t1 : V.cell? ⟨gR, 1, none⟩ = some (.slice none 0 0) := (hO6.cell 1).trans rfl
    have t2 : V.cell? ⟨gR, 2, none⟩ = some (.slice none 0 0) := (hO6.cell 2).trans rfl
    have t3 : V.cell? ⟨gR, 3, none⟩ = some (.string ⟨#[]⟩) := (hO6.cell 3).trans rfl
    have t4 : V.cell? ⟨gR, 4, none⟩ = some (.int .i32 0) := (hO6.cell 4).trans rfl
    have t5 : V.cell? ⟨gR, 5, none⟩ = some (.int .i32 0) := (hO6.cell 5).trans rfl
    have t6 : V.cell? ⟨gR, 6, none⟩ = some (.int .i32 (nl5 + 1)) := (hO6.cell 6).trans rfl
    refine bodyPost_ret (v := .agg #[.slice (some ⟨w3.heap.size + 1, 0, none⟩) 1 cap, .slice none 0 0, .slice none 0 0, .string ⟨#[]⟩, .int .i32 0, .int .i32 0, .int .i32 (nl5 + 1)]) (by simp [results, Tryd.results46, go_sem, t0, t1, t2, t3, t4, t5, t6]) rfl ⟨_, cap, nl5 + 1, 36, _, rfl, hA6, ?_, ?_, ?_, ?_, ?_, hB6⟩
    all_goals simp [Array.getElem?_append]
end Go.Proofs.YtcljenkgbbbfpaaDoor.Nt
