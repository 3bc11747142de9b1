/-
  Contracts for the laws on the css lexer: a new lexer, one step, wouldStartNumber. Conditions: sizes, and the two tables of unicode/utf8.
-/
import Derived.Test.YtcljenkgbbbfpaaDoorRows
import Derived.Test.YtcljenkgbbbfpaaDoorMem
import Derived.Test.YtcljenkgbbbfpaaDoorStr
import Derived.Test.YtcljenkgbbbfpaaDoorRow
import Derived.Test.YtcljenkgbbbfpaaDoorShelf
import Derived.WalkKit
import Derived.WalkSpells
import Derived.Handy
import Derived.Lib.Hide
import Derived.Lib.QuoteLoop
import Derived.Laws.RangeAny
import Derived.RegionTactic
import Derived.BigRegion
import Derived.Deep.RegionHeld3
namespace Go.Proofs.YtcljenkgbbbfpaaDoor.Lu
open Go.RowKit Go.PlainAid Str Mem Rws
set_option linter.unusedVariables false
variable {B : Nat → Option Value}
/-- A lexer at block g: its text, the newlines, the place, the code point, the token's start and length. -/
structure LX (B : Nat → Option Value) (w : World) (g : Nat) (s : ByteArray) (nl cur cp ts tl : Int) (cs : Array Value) : Prop where
  own : Own w g 64 cs
  sz : cs.size = 41
  c10 : cs[10]? = some (.string s)
  c32 : cs[32]? = some (.int .i64 nl)
  c33 : cs[33]? = some (.int .i64 cur)
  c35 : cs[35]? = some (.int .i32 cp)
  c36 : cs[36]? = some (.int .i32 ts)
  c37 : cs[37]? = some (.int .i32 tl)
  rest : ∀ i, i ≠ 32 → i ≠ 33 → i ≠ 35 → i ≠ 37 → cs[i]? = B i
/-- All but block g, below w's end, stands. -/
structure Fr (g : Nat) (w w' : World) : Prop where
  os : w'.os = w.os
  tape : w'.tape = w.tape
  output : w'.output = w.output
  size : w.heap.size ≤ w'.heap.size
  block : ∀ b, b < w.heap.size → b ≠ g → w'.heap[b]? = w.heap[b]?
theorem tabs_below {w w' : World} (h : Lib.Utf8Tabs 1 2 w) (hw : 3 ≤ w.heap.size) (hb : Below w.heap.size w w') : Lib.Utf8Tabs 1 2 w' := by
  obtain ⟨h1, h2⟩ := h
  refine ⟨fun c hc => ?_, fun i hi => ?_⟩
  · rw [hb.cell (p := ⟨1, c, none⟩) (by show 1 < w.heap.size; omega)]; exact h1 c hc
  · have := h2 i hi
    rw [hb.cell (p := ⟨2, 2 * i, none⟩) (by show 2 < w.heap.size; omega), hb.cell (p := ⟨2, 2 * i + 1, none⟩) (by show 2 < w.heap.size; omega)]
    exact this
theorem LX.below {w w' : World} {g : Nat} {s : ByteArray} {nl cur cp ts tl : Int} {cs : Array Value} (h : LX B w g s nl cur cp ts tl cs) (hb : Below w.heap.size w w') : LX B w' g s nl cur cp ts tl cs :=
  ⟨h.own.below hb h.own.lt, h.sz, h.c10, h.c32, h.c33, h.c35, h.c36, h.c37, h.rest⟩
theorem LX.drew {w : World} {g : Nat} {s : ByteArray} {nl cur cp ts tl : Int} {cs : Array Value} (h : LX B w g s nl cur cp ts tl cs) : LX B w.drew g s nl cur cp ts tl cs :=
  ⟨h.own.drew, h.sz, h.c10, h.c32, h.c33, h.c35, h.c36, h.c37, h.rest⟩
theorem keepL {wr W W1 : World} {g : Nat} {s : ByteArray} {cur : Int} (hg : g < wr.heap.size) (h1 : Below W.heap.size W W1)
    (h : W.cell? ⟨g, 10, none⟩ = some (.string s) ∧ W.cell? ⟨g, 33, none⟩ = some (.int .i64 cur) ∧ Below wr.heap.size wr W) : W1.cell? ⟨g, 10, none⟩ = some (.string s) ∧ W1.cell? ⟨g, 33, none⟩ = some (.int .i64 cur) ∧ Below wr.heap.size wr W1 := by
  obtain ⟨a, b, c⟩ := h
  have hz := c.size
  exact ⟨(h1.cell (p := ⟨g, 10, none⟩) (by show g < W.heap.size; omega)).trans a, (h1.cell (p := ⟨g, 33, none⟩) (by show g < W.heap.size; omega)).trans b, c.trans (h1.mono hz)⟩
def cpOf (s : ByteArray) (k : Nat) : Int := if (Lib.decodeGo (s.extract k s.size)).2 = 0 then -1 else (Lib.decodeGo (s.extract k s.size)).1
def wdOf (s : ByteArray) (k : Nat) : Nat := (Lib.decodeGo (s.extract k s.size)).2
def Stepped (B : Nat → Option Value) (w : World) (g : Nat) (s : ByteArray) (k : Nat) (nl ts : Int) (e : Ending) (w' : World) : Prop :=
  ∃ cs' nl', e = .returned (.tuple #[]) ∧ LX B w' g s nl' ((k + wdOf s k : Nat) : Int) (cpOf s k) ts ((k : Int) - ts) cs' ∧ nl ≤ nl' ∧ nl' ≤ nl + 1 ∧ (wdOf s k = 0 → nl' = nl) ∧ Fr g w w'
theorem dec_bounds (s : ByteArray) : (Lib.decodeGo s).1 ≤ 2147483647 ∧ (Lib.decodeGo s).2 ≤ s.size := by
  unfold Lib.decodeGo
  by_cases h : s.size = 0
  · rw [if_pos h]; exact ⟨by show 65533 ≤ 2147483647; omega, by show 0 ≤ s.size; omega⟩
  · rw [if_neg h]
    exact ⟨decode_le s 0, Lib.width_le s (by omega)⟩
theorem Fr.of {g : Nat} {w w1 w2 : World} (hb : Below w.heap.size w w1) (hs : w2.os = w1.os ∧ w2.tape = w1.tape ∧ w2.output = w1.output ∧ w2.heap.size = w1.heap.size ∧ ∀ b, b ≠ g → w2.heap[b]? = w1.heap[b]?) : Fr g w w2 :=
  ⟨hs.1.trans hb.os, hs.2.1.trans hb.tape, hs.2.2.1.trans hb.output, by rw [hs.2.2.2.1]; exact hb.size, fun b h hne => (hs.2.2.2.2 b hne).trans (hb.block b h)⟩
/-- Writes into block g alone. -/
def Wr (g : Nat) (w w' : World) : Prop := w'.os = w.os ∧ w'.tape = w.tape ∧ w'.output = w.output ∧ w'.heap.size = w.heap.size ∧ ∀ b, b ≠ g → w'.heap[b]? = w.heap[b]?
theorem Wr.refl (g : Nat) (w : World) : Wr g w w := ⟨rfl, rfl, rfl, rfl, fun _ _ => rfl⟩
theorem Wr.set {g : Nat} {w w' : World} (h : Wr g w w') (i : Nat) (v : Value) : Wr g w (w'.setCell ⟨g, i, none⟩ v) :=
  ⟨h.1, h.2.1, h.2.2.1, by rw [World.size_setCell]; exact h.2.2.2.1, fun b hb => (Below.heap_setCell w' ⟨g, i, none⟩ v b hb).trans (h.2.2.2.2 b hb)⟩
theorem Wr.drew {g : Nat} {w w' : World} (h : Wr g w w') : Wr g w w'.drew := h
theorem at_set (cs : Array Value) (i j : Nat) (v : Value) (h : i ≠ j) : (cs.setIfInBounds i v)[j]? = cs[j]? := by rw [Array.getElem?_setIfInBounds, if_neg h]
theorem at_same (cs : Array Value) (i : Nat) (v : Value) (h : i < cs.size) : (cs.setIfInBounds i v)[i]? = some v := by rw [Array.getElem?_setIfInBounds, if_pos rfl, if_pos h]
theorem LX.set32 {w : World} {g : Nat} {s : ByteArray} {nl cur cp ts tl : Int} {cs : Array Value} (h : LX B w g s nl cur cp ts tl cs) (x : Int) : LX B (w.setCell ⟨g, 32, none⟩ (.int .i64 x)) g s x cur cp ts tl (cs.setIfInBounds 32 (.int .i64 x)) :=
  ⟨h.own.set 32 _, by simpa using h.sz, (at_set _ _ _ _ (by omega)).trans h.c10, at_same _ _ _ (by rw [h.sz]; omega), (at_set _ _ _ _ (by omega)).trans h.c33, (at_set _ _ _ _ (by omega)).trans h.c35, (at_set _ _ _ _ (by omega)).trans h.c36, (at_set _ _ _ _ (by omega)).trans h.c37, fun i a b c d => (at_set _ _ _ _ (Ne.symm a)).trans (h.rest i a b c d)⟩
theorem LX.set33 {w : World} {g : Nat} {s : ByteArray} {nl cur cp ts tl : Int} {cs : Array Value} (h : LX B w g s nl cur cp ts tl cs) (x : Int) : LX B (w.setCell ⟨g, 33, none⟩ (.int .i64 x)) g s nl x cp ts tl (cs.setIfInBounds 33 (.int .i64 x)) :=
  ⟨h.own.set 33 _, by simpa using h.sz, (at_set _ _ _ _ (by omega)).trans h.c10, (at_set _ _ _ _ (by omega)).trans h.c32, at_same _ _ _ (by rw [h.sz]; omega), (at_set _ _ _ _ (by omega)).trans h.c35, (at_set _ _ _ _ (by omega)).trans h.c36, (at_set _ _ _ _ (by omega)).trans h.c37, fun i a b c d => (at_set _ _ _ _ (Ne.symm b)).trans (h.rest i a b c d)⟩
theorem LX.set35 {w : World} {g : Nat} {s : ByteArray} {nl cur cp ts tl : Int} {cs : Array Value} (h : LX B w g s nl cur cp ts tl cs) (x : Int) : LX B (w.setCell ⟨g, 35, none⟩ (.int .i32 x)) g s nl cur x ts tl (cs.setIfInBounds 35 (.int .i32 x)) :=
  ⟨h.own.set 35 _, by simpa using h.sz, (at_set _ _ _ _ (by omega)).trans h.c10, (at_set _ _ _ _ (by omega)).trans h.c32, (at_set _ _ _ _ (by omega)).trans h.c33, at_same _ _ _ (by rw [h.sz]; omega), (at_set _ _ _ _ (by omega)).trans h.c36, (at_set _ _ _ _ (by omega)).trans h.c37, fun i a b c d => (at_set _ _ _ _ (Ne.symm c)).trans (h.rest i a b c d)⟩
theorem LX.set37 {w : World} {g : Nat} {s : ByteArray} {nl cur cp ts tl : Int} {cs : Array Value} (h : LX B w g s nl cur cp ts tl cs) (x : Int) : LX B (w.setCell ⟨g, 37, none⟩ (.int .i32 x)) g s nl cur cp ts x (cs.setIfInBounds 37 (.int .i32 x)) :=
  ⟨h.own.set 37 _, by simpa using h.sz, (at_set _ _ _ _ (by omega)).trans h.c10, (at_set _ _ _ _ (by omega)).trans h.c32, (at_set _ _ _ _ (by omega)).trans h.c33, (at_set _ _ _ _ (by omega)).trans h.c35, (at_set _ _ _ _ (by omega)).trans h.c36, at_same _ _ _ (by rw [h.sz]; omega), fun i a b c d => (at_set _ _ _ _ (Ne.symm d)).trans (h.rest i a b c d)⟩
theorem LX.as {w : World} {g : Nat} {s : ByteArray} {nl cur cp ts tl cur' cp' : Int} {cs : Array Value} (h : LX B w g s nl cur cp ts tl cs) (e1 : cur = cur') (e2 : cp = cp') : LX B w g s nl cur' cp' ts tl cs := by subst e1 e2; exact h
set_option maxRecDepth 100000 in
set_option maxHeartbeats 8000000 in
theorem step25 (g : Nat) (s : ByteArray) (k : Nat) (nl cp ts tl : Int) (cs : Array Value) (w : World) (h : LX B w g s nl (k : Int) cp ts tl cs) (hT : Lib.Utf8Tabs 1 2 w) (hw2 : 3 ≤ w.heap.size) (hs : s.size ≤ 1048576) (hk : k ≤ s.size) (hn0 : 0 ≤ nl) (hn1 : nl ≤ 1000000000) (ht0 : 0 ≤ ts) (ht1 : ts ≤ 2000000) :
    Calls Tryd.prog 41 #[.pointer (some ⟨g, 0, none⟩)] w (Stepped B w g s k nl ts) := by
  have c10 := (h.own.cell 10).trans h.c10
  have c33 := (h.own.cell 33).trans h.c33
  have hg := h.own.lt
  have hi0 : (0 : Int) ≤ (k : Int) := by omega
  have hi1 : (k : Int) ≤ (s.size : Int) := by omega
  go_enter Tryd.func41, Tryd.ntmps41
  go_wp2_with fail
  go_region_held3 (fun W => W.cell? ⟨g, 10, none⟩ = some (.string s) ∧ W.cell? ⟨g, 33, none⟩ = some (.int .i64 (k : Int)) ∧ Below w.heap.size w W)
    (first | with_reducible exact keepL hg hb1 (by assumption) | exact ⟨c10, c33, below_drew (Below.refl _ _)⟩)
    (first | (go_at_call 52; refine (Tryd.utf8_DecodeRuneInString _ _ (tabs_below hT hw2 (And.right (And.right (by assumption))))).mono ?_; rintro e w1 ⟨rfl, hb1⟩))
  have h1 := h.drew.below hb1
  have hbw : Below w.heap.size w w1 := (below_drew (Below.refl _ _)).trans (hb1.mono (Nat.le_refl _))
  obtain ⟨hR, hK⟩ := dec_bounds (s.extract k s.size)
  rw [size_extract] at hK
  have HCP := Lib.hid (show cpOf s k = if (Lib.decodeGo (s.extract k s.size)).2 = 0 then (-1 : Int) else ((Lib.decodeGo (s.extract k s.size)).1 : Int) from rfl)
  have HWD := Lib.hid (show wdOf s k = (Lib.decodeGo (s.extract k s.size)).2 from rfl)
  generalize (Lib.decodeGo (s.extract k s.size)).1 = R at *
  generalize (Lib.decodeGo (s.extract k s.size)).2 = K at *
  have o := h1.own
  have d32 := (o.cell 32).trans h1.c32
  have d33 := (o.cell 33).trans h1.c33
  have d35 := (o.cell 35).trans h1.c35
  have d36 := (o.cell 36).trans h1.c36
  have d37 := (o.cell 37).trans h1.c37
  have f32 := o.frozen 32
  have f33 := o.frozen 33
  have f35 := o.frozen 35
  have f37 := o.frozen 37
  have HL := Lib.hid h1
  have HB := Lib.hid hbw
  clear h h1 hbw hb1 o c10 c33 hT
  by_cases hK0 : K = 0
  · have t1 : ((K : Int) == 0) = true := by simp [hK0]
    have HK0 := Lib.hid hK0
    clear hK0
    go_wp2_with fail
    go_region
    go_wp2
    go_end0
    refine ⟨_, nl, rfl, (((((HL.out.set35 _).set37 _).set33 _).drew).as (by have := HWD.out; omega) (by rw [HCP.out, if_pos HK0.out])), Int.le_refl _, by omega, fun _ => rfl, Fr.of HB.out ((((Wr.refl g w1).set 35 _).set 37 _).set 33 _).drew⟩
  · have t1 : ((K : Int) == 0) = false := by simp [hK0]
    have HK0 := Lib.hid hK0
    clear hK0
    by_cases h10 : R = 10
    · have t2 : ((R : Int) == 10) = true := by simp [h10]
      have H10 := Lib.hid h10
      clear h10
      go_wp2_with fail
      go_region
      go_wp2
      go_end0
      refine ⟨_, nl + 1, rfl, ((((((HL.out.set32 _).set35 _).set37 _).set33 _).drew).as (by have := HWD.out; omega) (by rw [HCP.out, if_neg HK0.out])), by omega, Int.le_refl _, fun h => absurd (HWD.out.symm.trans h) HK0.out, Fr.of HB.out (((((Wr.refl g w1).set 32 _).set 35 _).set 37 _).set 33 _).drew⟩
    · have t2 : ((R : Int) == 10) = false := by simp; omega
      have H10 := Lib.hid h10
      clear h10
      go_wp2_with fail
      go_region
      go_wp2
      go_end0
      refine ⟨_, nl, rfl, (((((HL.out.set35 _).set37 _).set33 _).drew).as (by have := HWD.out; omega) (by rw [HCP.out, if_neg HK0.out])), Int.le_refl _, by omega, fun _ => rfl, Fr.of HB.out ((((Wr.refl g w1).set 35 _).set 37 _).set 33 _).drew⟩
end Go.Proofs.YtcljenkgbbbfpaaDoor.Lu
