/-
  Proved: MsgData and MsgLocationOrNil leave the lexer but for the cells of the tracker, and allowOverride answers. Conditions: those that each
  theorem names as its hypotheses, and no others.
-/
import Derived.Test.YtcljenkgbbbfpaaDoorTl
namespace Go.Proofs.YtcljenkgbbbfpaaDoor.Tm
open Go.RowKit Go.PlainAid Str Mem Ho De Lu Lg Dw Tk Tl
set_option linter.unusedVariables false
set_option linter.unusedSimpArgs false
/-- What a call that asks the tracker for a place leaves. -/
def Asked (g : Nat) (cs : Array Value) (s : ByteArray) (off : Nat) (w w' : World) : Prop :=
  ∃ (cs' : Array Value) (o ln ls le : Nat), Tk g cs s w w' cs' o ln ls le true ∧ off ≤ o ∧ ∀ p, off ≤ p → p < o → 128 ≤ bt s p
def Ptr (g : Nat) (cs : Array Value) (s : ByteArray) (off : Nat) (w : World) (e : Ending) (w' : World) : Prop := (∃ l, e = .returned (.pointer (some l))) ∧ Asked g cs s off w w'
theorem _root_.Go.Proofs.YtcljenkgbbbfpaaDoor.Tk.Tk.start {g : Nat} {cs cs' : Array Value} {s : ByteArray} {w w' : World} {o ln ls le : Nat} {he : Bool} (h : Tk.Tk g cs s w w' cs' o ln ls le he) : Tk.Tk g cs' s w' w' cs' o ln ls le he :=
  ⟨h.tr, Same.refl _, ⟨rfl, rfl, rfl, Nat.le_refl _, fun _ _ _ => rfl⟩, h.ho, h.hln, h.hls, h.hle⟩
theorem _root_.Go.Proofs.YtcljenkgbbbfpaaDoor.Tk.Tk.below {g : Nat} {cs : Array Value} {s : ByteArray} {w W w' : World} {o ln ls le : Nat} {he : Bool} {cs' : Array Value} (h : Tk.Tk g cs s w W cs' o ln ls le he) (hb : Below W.heap.size W w') : Tk.Tk g cs s w w' cs' o ln ls le he :=
  ⟨h.tr.below hb, h.same, grown_trans h.gr (grown_of_below hb (some g)), h.ho, h.hln, h.hls, h.hle⟩
theorem _root_.Go.Proofs.YtcljenkgbbbfpaaDoor.Tk.Tk.pre {g : Nat} {cs cs' cs'' : Array Value} {s : ByteArray} {w W w' : World} {o ln ls le o' ln' ls' le' : Nat} {he he' : Bool} (k : Tk.Tk g cs s w W cs' o ln ls le he) (h : Tk.Tk g cs' s W w' cs'' o' ln' ls' le' he') : Tk.Tk g cs s w w' cs'' o' ln' ls' le' he' :=
  ⟨h.tr, k.same.trans h.same, grown_trans k.gr h.gr, h.ho, h.hln, h.hls, h.hle⟩
set_option maxRecDepth 100000 in
set_option maxHeartbeats 4000000 in
theorem loc86 (g : Nat) (cs : Array Value) (s : ByteArray) (off o ln ls le : Nat) (he : Bool) (len : Int) (w : World) (h : Tk.Tk g cs s w w cs o ln ls le he) (ho : o ≤ off) (hoff : off ≤ s.size) (hs : s.size ≤ 1048576) (hl0 : 0 ≤ len) (hl1 : len ≤ 1048576) (hT : Lib.Utf8Tabs 1 2 w) (hg : 3 ≤ g) (hw : 3 ≤ w.heap.size) :
    Calls Tryd.prog 86 #[.pointer (some ⟨g, 22, none⟩), .agg #[.int .i32 off, .int .i32 len]] w (Ptr g cs s off w) := by
  have HT := Lib.hid hT
  have HH := Lib.hid h
  clear hT h
  go_enter Tryd.func86, Tryd.ntmps86
  go_upto_region 1 with fail
  generalize hW : w.alloc _ = W
  have hb : Below w.heap.size w W := by rw [← hW]; exact (Below.refl _ _).alloc (Nat.le_refl _) _
  have hb1 : Own W w.heap.size 31 #[.int .i32 off, .int .i32 len] := by rw [← hW]; exact Own.new _ _ _
  have hk := HH.out.below hb
  have d0 : W.cell? ⟨w.heap.size, 0, none⟩ = some (.int .i32 off) := (hb1.cell 0).trans rfl
  have c31 : W.cell? ⟨g, 31, none⟩ = some (.bool true) := (hk.tr.own.cell 31).trans hk.tr.c31
  have HK := Lib.hid hk
  have HB1 := Lib.hid hb1
  have hsz := hb.size
  have hgl := HH.out.tr.own.lt
  have HTW := Lib.hid (tabs_gr HT.out hg hw (grown_of_below hb (some g)))
  clear hW hb hb1 hk HH
  go_wp2_with fail
  refine (comp96 g cs s off o ln ls le he W HK.out.start ho hoff hs HTW.out hg (by omega)).mono ?_
  rintro e w2 ⟨cs2, o2, ln2, ls2, le2, rfl, hk2, ho2, hc2⟩
  have hne : w.heap.size ≠ g := by omega
  have hb2 : Own w2 w.heap.size 31 #[.int .i32 off, .int .i32 len] := (hk2.gr.block _ HB1.out.lt (by simpa using hne)).trans HB1.out
  have HK2 := Lib.hid (HK.out.pre hk2)
  have HC2 := Lib.hid hc2
  have e1 : w2.cell? ⟨w.heap.size, 1, none⟩ = some (.int .i32 len) := (hb2.cell 1).trans rfl
  have e22 : w2.cell? ⟨g, 22, none⟩ = some (.string s) := (hk2.tr.own.cell 22).trans hk2.tr.c22
  obtain ⟨a23, e23⟩ := hk2.tr.c23
  obtain ⟨a24, e24⟩ := hk2.tr.c24
  have e23 : w2.cell? ⟨g, 23, none⟩ = some (.string a23) := (hk2.tr.own.cell 23).trans e23
  have e24 : w2.cell? ⟨g, 24, none⟩ = some (.string a24) := (hk2.tr.own.cell 24).trans e24
  obtain ⟨q1, q2⟩ := hk2.hle rfl
  have q3 := hk2.hln
  have q4 := hk2.ho
  have q5 : (ls2 : Int) ≤ (le2 : Int) := by omega
  have q6 : (le2 : Int) ≤ (s.size : Int) := by omega
  have q7 : (0 : Int) ≤ (ls2 : Int) := by omega
  clear hk2 hc2 hb2 HK HB1 HTW d0 c31
  go_upto_region 4 with fail
  go_region
  go_wp2
  go_ret
  exact ⟨⟨_, rfl⟩, cs2, o2, ln2, ls2, le2, (HK2.out.below (((Below.refl _ _).alloc (Nat.le_refl _) _).drew)), ho2, HC2.out⟩
def Dat (g : Nat) (cs : Array Value) (s : ByteArray) (off : Nat) (tx : ByteArray) (w : World) (e : Ending) (w' : World) : Prop := (∃ l, e = .returned (.agg #[.nilIface, .pointer (some l), .string tx, .bool false])) ∧ Asked g cs s off w w'
theorem _root_.Go.Proofs.YtcljenkgbbbfpaaDoor.Tk.Tk.far {g : Nat} {cs cs' : Array Value} {s : ByteArray} {w W : World} {o ln ls le : Nat} {he : Bool} (h : Tk.Tk g cs s w W cs' o ln ls le he) {p : Nat} (hp : w.heap.size ≤ p) (hg : g ≠ p) (i : Nat) (v : Value) : Tk.Tk g cs s w (W.setCell ⟨p, i, none⟩ v) cs' o ln ls le he :=
  ⟨⟨h.tr.own.far (p := ⟨p, i, none⟩) hg v, h.tr.sz, h.tr.c22, h.tr.c23, h.tr.c24, h.tr.c25, h.tr.c26, h.tr.c27, h.tr.c28, h.tr.c29, h.tr.c30, h.tr.c31⟩, h.same,
    ⟨(grown_set W p i v).os.trans h.gr.os, (grown_set W p i v).tape.trans h.gr.tape, (grown_set W p i v).output.trans h.gr.output, Nat.le_trans h.gr.size (grown_set W p i v).size, fun k hk he => ((grown_set W p i v).block k (Nat.lt_of_lt_of_le hk h.gr.size) (fun e => by injection e with e; omega)).trans (h.gr.block k hk he)⟩, h.ho, h.hln, h.hls, h.hle⟩
set_option maxRecDepth 100000 in
set_option maxHeartbeats 4000000 in
theorem dat60 (g : Nat) (cs : Array Value) (s : ByteArray) (off o ln ls le : Nat) (he : Bool) (len : Int) (tx : ByteArray) (w : World) (h : Tk.Tk g cs s w w cs o ln ls le he) (ho : o ≤ off) (hoff : off ≤ s.size) (hs : s.size ≤ 1048576) (hl0 : 0 ≤ len) (hl1 : len ≤ 1048576) (hT : Lib.Utf8Tabs 1 2 w) (hg : 3 ≤ g) (hw : 3 ≤ w.heap.size) :
    Calls Tryd.prog 60 #[.pointer (some ⟨g, 22, none⟩), .agg #[.int .i32 off, .int .i32 len], .string tx] w (Dat g cs s off tx w) := by
  have HT := Lib.hid hT
  have HH := Lib.hid h
  clear hT h
  go_enter Tryd.func60, Tryd.ntmps60
  go_upto_region 1 with fail
  generalize hW : (w.alloc _).alloc _ = W
  have hb : Below w.heap.size w W := by rw [← hW]; exact ((Below.refl _ _).alloc (Nat.le_refl _) _).alloc (by simp) _
  have ho1 : Own W w.heap.size 31 #[.int .i32 off, .int .i32 len] := by rw [← hW]; exact (own_at rfl _ _).alloc _
  have ho6 : Own W (w.heap.size + 1) 119 #[.nilIface, .pointer none, .string ⟨#[]⟩, .bool false] := by rw [← hW]; exact own_at (by simp) _ _
  have d0 : W.cell? ⟨w.heap.size, 0, none⟩ = some (.int .i32 off) := (ho1.cell 0).trans rfl
  have d1 : W.cell? ⟨w.heap.size, 1, none⟩ = some (.int .i32 len) := (ho1.cell 1).trans rfl
  have hsz := hb.size
  have hgl := HH.out.tr.own.lt
  have HO6 := Lib.hid ho6
  have HK := Lib.hid (HH.out.below hb)
  have HTW := Lib.hid (tabs_gr HT.out hg hw (grown_of_below hb (some g)))
  clear hW hb ho1 ho6 HH
  go_wp2_with fail
  refine (loc86 g cs s off o ln ls le he len W HK.out.start ho hoff hs hl0 hl1 HTW.out hg (by omega)).mono ?_
  rintro e w1 ⟨⟨l, rfl⟩, cs2, o2, ln2, ls2, le2, hk2, ho2, hc2⟩
  have hne : w.heap.size + 1 ≠ g := by omega
  have h6 : Own w1 (w.heap.size + 1) 119 #[.nilIface, .pointer none, .string ⟨#[]⟩, .bool false] := (hk2.gr.block _ HO6.out.lt (by simpa using hne)).trans HO6.out
  have o0 : w1.cell? ⟨w.heap.size + 1, 0, none⟩ = some .nilIface := (h6.cell 0).trans rfl
  have o1 : w1.cell? ⟨w.heap.size + 1, 1, none⟩ = some (.pointer none) := (h6.cell 1).trans rfl
  have o2' : w1.cell? ⟨w.heap.size + 1, 2, none⟩ = some (.string ⟨#[]⟩) := (h6.cell 2).trans rfl
  have o3 : w1.cell? ⟨w.heap.size + 1, 3, none⟩ = some (.bool false) := (h6.cell 3).trans rfl
  have f0 : ∀ j, w1.frozen? ⟨w.heap.size + 1, j, none⟩ = false := h6.frozen
  have hlt : w.heap.size ≤ w.heap.size + 1 := Nat.le_succ _
  have HK2 := Lib.hid (HK.out.pre hk2)
  have HC2 := Lib.hid hc2
  have H6 := Lib.hid h6
  clear hk2 hc2 h6 HK HO6 HTW d0 d1
  go_wp2
  have hO := (((H6.out.set 0 .nilIface).set 1 (.pointer (some l))).set 2 (.string tx)).set 3 (.bool false)
  have hQ := (((HK2.out.far hlt (Ne.symm hne) 0 .nilIface).far hlt (Ne.symm hne) 1 (.pointer (some l))).far hlt (Ne.symm hne) 2 (.string tx)).far hlt (Ne.symm hne) 3 (.bool false)
  generalize hV : (((w1.setCell _ _).setCell _ _).setCell _ _).setCell _ _ = V at hO hQ ⊢
  have t0 : V.cell? ⟨w.heap.size + 1, 0, none⟩ = some .nilIface := (hO.cell 0).trans rfl
  have t1 : V.cell? ⟨w.heap.size + 1, 1, none⟩ = some (.pointer (some l)) := (hO.cell 1).trans rfl
  have t2 : V.cell? ⟨w.heap.size + 1, 2, none⟩ = some (.string tx) := (hO.cell 2).trans rfl
  have t3 : V.cell? ⟨w.heap.size + 1, 3, none⟩ = some (.bool false) := (hO.cell 3).trans rfl
  refine bodyPost_ret (v := .agg #[.nilIface, .pointer (some l), .string tx, .bool false]) (by simp [results, Tryd.results60, go_sem, t0, t1, t2, t3]) rfl ⟨⟨_, rfl⟩, cs2, o2, ln2, ls2, le2, hQ, ho2, HC2.out⟩
theorem look44 (W : World) : (Instr.lookup 44 (.map none) (.int .u8 34) true).run Tryd.prog W = .ok (.tuple #[.int .i8 0, .bool false]) W := by kernel_rfl
set_option maxRecDepth 100000 in
theorem over85 (w : World) : Calls Tryd.prog 85 #[.map none, .int .u8 34, .int .u8 1] w fun e w' => e = .returned (.tuple #[.int .u8 1, .bool true]) ∧ w = w' := by
  have hlk := look44
  go_enter Tryd.func85, Tryd.ntmps85
  go_wp2
  go_returns
  exact ⟨rfl, rfl⟩
end Go.Proofs.YtcljenkgbbbfpaaDoor.Tm
