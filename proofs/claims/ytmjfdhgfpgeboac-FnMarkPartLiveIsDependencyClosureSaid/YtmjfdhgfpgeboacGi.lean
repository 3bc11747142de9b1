/-
  Proved: ZZjsFile makes a linker file with the given pointer, and ZZfileIsLive reads the mark of a file. Conditions: those that each theorem names as
  its hypotheses, and no others.
-/
import Derived.Test.YtmjfdhgfpgeboacGg
namespace Go.Proofs.Ytmjfdhgfpgeboac.Gi
open Go.RowKit Go.PlainAid Mem Ho Rws Orw Dg Fs Ga Gb Gc Fil Gd Ge Gg
set_option linter.unusedVariables false
set_option linter.unusedSimpArgs false
/-- a file of the linker's, at the start -/
def lrow (q : Option Addr) : List Value := [.slice none 0 0, .pointer none, .iface 120 (.pointer q), .pointer none, .slice none 0 0, .string ⟨#[]⟩, .pointer none, .int .u8 0, .string ⟨#[]⟩, .string ⟨#[]⟩, .string ⟨#[]⟩, .string ⟨#[]⟩, .string ⟨#[]⟩, .string ⟨#[]⟩, .string ⟨#[]⟩, .string ⟨#[]⟩, .int .u8 0, .int .u32 0, .int .u8 0, .bool false, .int .u32 0, .int .u32 0, .int .u8 0, .bool false]
def Row1 (q : Option Addr) (w : World) (e : Ending) (w' : World) : Prop := e = .returned (.agg (lrow q).toArray) ∧ Below w.heap.size w w'
theorem below_setRow {B g : Nat} {a W : World} {cs : Array Value} (h : Below B a W) (hg : B ≤ g) : Below B a (W.setRow g cs) := by
  refine ⟨h.os, h.tape, h.output, ?_, fun b hb => ?_⟩
  · have : (W.setRow g cs).heap.size = W.heap.size := by simp [World.setRow]
    rw [this]; exact h.size
  · rw [← h.block b hb]
    unfold World.setRow
    have : g ≠ b := by omega
    simp [Array.getElem?_modify, this]
def z180 : Array Value := #[.slice none 0 0, .pointer none, .nilIface, .pointer none, .slice none 0 0, .string ⟨#[]⟩, .pointer none, .int .u8 0, .string ⟨#[]⟩, .string ⟨#[]⟩, .string ⟨#[]⟩, .string ⟨#[]⟩, .string ⟨#[]⟩, .string ⟨#[]⟩, .string ⟨#[]⟩, .string ⟨#[]⟩, .int .u8 0, .int .u32 0, .int .u8 0, .bool false, .int .u32 0, .int .u32 0, .int .u8 0, .bool false]
theorem size180 : (Try.prog.info? 180).map (·.size) = some 24 := by kernel_rfl
theorem one180 (q : Option Addr) : (lrow q).toArray.all (·.oneCell') = true := by simp [lrow, Value.oneCell']
set_option maxRecDepth 100000 in
set_option maxHeartbeats 4000000 in
theorem js16 (q : Option Addr) (w : World) : Calls Try.prog 16 #[.pointer q] w (Row1 q w) := by
  go_enter Try.func16, Try.ntmps16
  go_upto_region 1 with fail
  generalize hW1 : w.alloc _ = W1
  have o1 : Own W1 w.heap.size 180 z180 := by rw [← hW1]; exact Own.new _ _ _
  have HB1 : Hid (Below w.heap.size w W1) := Lib.hid (by rw [← hW1]; exact (Below.refl _ _).alloc (Nat.le_refl _) _)
  have HO1 := Lib.hid o1
  clear hW1 o1
  go_upto_region 2 with fail
  generalize hW2 : W1.alloc _ = W2
  have o2 : Own W2 W1.heap.size 180 z180 := by rw [← hW2]; exact Own.new _ _ _
  have HO1b : Hid (Own W2 w.heap.size 180 z180) := Lib.hid (by rw [← hW2]; exact HO1.out.alloc _)
  have HB2 : Hid (Below w.heap.size w W2) := Lib.hid (by rw [← hW2]; exact HB1.out.alloc HB1.out.size _)
  have x2 : W2.cell? ⟨W1.heap.size, 2, none⟩ = some .nilIface := (o2.cell 2).trans rfl
  have f2 : W2.frozen? ⟨W1.heap.size, 2, none⟩ = false := o2.frozen 2
  have HO2 := Lib.hid o2
  have HLT := Lib.hid HO1.out.lt
  clear hW2 o2 HO1
  go_upto_region 3 with fail
  generalize hW3 : W2.setCell _ _ = W3
  have HO3 : Hid (Own W3 W1.heap.size 180 (lrow q).toArray) := Lib.hid (by rw [← hW3]; exact HO2.out.set 2 _)
  have HO1c : Hid (Own W3 w.heap.size 180 z180) := Lib.hid (by rw [← hW3]; exact HO1b.out.far (p := ⟨W1.heap.size, 2, none⟩) (by have := HLT.out; show w.heap.size ≠ W1.heap.size; omega) _)
  have HB3 : Hid (Below w.heap.size w W3) := Lib.hid (by rw [← hW3]; exact HB2.out.setCell (p := ⟨W1.heap.size, 2, none⟩) HB1.out.size _)
  clear hW3 x2 f2
  go_wp2_with (first
    | (refine wpList_load_row rfl 180 _ rfl W1.heap.size rfl 180 (lrow q).toArray (0, 0) _ HO3.out Try.underlying180 rfl size180 ?_)
    | (refine wpList_store_row rfl 180 _ _ rfl w.heap.size (lrow q).toArray rfl rfl 180 z180 HO1c.out size180 rfl (one180 q) ?_))
  refine bodyPost_ret (v := .agg (lrow q).toArray) (results_cell_row rfl _ _ w.heap.size 180 (lrow q).toArray (0, 0) _ rfl (setRow_heap _ _ _ _ _ _ HO1c.out) Try.underlying180 rfl size180) rfl ?_
  exact ⟨rfl, below_setRow HB3.out (Nat.le_refl _)⟩
theorem live14 {w : World} {lo lc op lf n : Nat} {g : G} {rb pt : Nat → Nat} {db : Nat → Nat → Nat} {l : L} (h : Ln w lo lc op lf n g rb pt db l) (f : Nat) (hf : f < n) (hn : n ≤ 1048576) : Calls Try.prog 14 #[.pointer (some ⟨lc, 0, none⟩), .int .u32 (f : Int)] w (Says (l (.file f)) w) := by
  obtain ⟨cx, ox, x0, x10⟩ := h.ctx
  obtain ⟨cf, of_, hcf⟩ := h.files
  have a0 : w.cell? ⟨lc, 10, none⟩ = some (.slice (some ⟨lf, 0, none⟩) n n) := (ox.cell _).trans x10
  have a3 : w.cell? ⟨lf, f * 24 + 23, none⟩ = some (.bool (l (.file f))) := (of_.cell _).trans (hcf f hf).2
  generalize l (.file f) = lv at a3
  have q0 : (0 : Int) ≤ (f : Int) := by omega
  have q1 : (f : Int) < (n : Int) := by omega
  clear h ox x0 x10 of_ hcf
  go_enter Try.func14, Try.ntmps14
  go_wp2_with fail
  go_ret
  exact ⟨rfl, Below.refl _ _⟩
end Go.Proofs.Ytmjfdhgfpgeboac.Gi
