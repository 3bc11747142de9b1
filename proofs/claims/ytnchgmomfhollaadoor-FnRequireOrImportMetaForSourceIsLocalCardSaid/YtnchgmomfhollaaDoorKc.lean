/-
  Contract for the law on the meta of a file: ZZnewCtx lays a context over a list of files without records. Conditions: sizes alone, the package's InvalidRef as its initialiser lays it.
-/
import Derived.Test.YtnchgmomfhollaaDoorKb
import Derived.Laws.Tables
import Derived.Deep.CutRange
import Derived.Deep.RegionHeld3
namespace Go.Proofs.YtnchgmomfhollaaDoor.Kc
open Go.RowKit Go.PlainAid Mem Rws Ka Kb
set_option linter.unusedVariables false
def opts : Array Value := #[.pointer none, .int .i32 0, .int .i32 0, .int .u8 0, .pointer none, .pointer none, .pointer none, .pointer none, .pointer none, .nilFunc, .string ⟨#[]⟩, .slice none 0 0, .slice none 0 0, .slice none 0 0, .slice none 0 0, .slice none 0 0, .map none, .slice none 0 0, .map none, .slice none 0 0, .bool false, .map none, .string ⟨#[]⟩, .string ⟨#[]⟩, .string ⟨#[]⟩, .string ⟨#[]⟩, .string ⟨#[]⟩, .slice none 0 0, .string ⟨#[]⟩, .string ⟨#[]⟩, .map none, .string ⟨#[]⟩, .slice none 0 0, .slice none 0 0, .slice none 0 0, .string ⟨#[]⟩, .string ⟨#[]⟩, .string ⟨#[]⟩, .string ⟨#[]⟩, .slice none 0 0, .slice none 0 0, .slice none 0 0, .slice none 0 0, .string ⟨#[]⟩, .pointer none, .nilIface, .slice none 0 0, .int .u32 0, .nilIface, .slice none 0 0, .int .u32 0, .bool false, .bool false, .bool false, .string ⟨#[]⟩, .bool false, .bool false, .int .i64 0, .map none, .int .u64 0, .int .u16 0, .int .u64 0, .int .u64 0, .int .u16 0, .int .u16 0, .int .u8 0, .int .u8 0, .int .u8 0, .int .u8 0, .int .u8 0, .int .u8 0, .bool false, .bool false, .int .u8 2, .bool false, .bool false, .bool false, .bool false, .bool false, .bool false, .bool false, .bool false, .int .u8 0, .int .u8 0, .int .u8 0, .int .u8 0, .int .u8 0, .bool false, .int .u8 0, .bool false, .bool false, .bool false, .bool false, .bool false, .bool false, .bool false, .bool false, .int .u8 0, .int .u8 3, .bool false, .int .u8 0, .bool false]
def ctx0 (b : Nat) : Array Value := #[.pointer (some ⟨b, 0, none⟩), .pointer none, .nilFunc, .nilFunc, .nilFunc, .nilFunc, .int .i8 0, .map none, .nilIface, .pointer none, .slice none 0 0, .slice none 0 0, .slice none 0 0, .map none, .map none, .slice none 0 0, .slice none 0 0, .slice none 0 0, .slice none 0 0, .nilFunc, .string ⟨#[]⟩, .slice none 0 0, .map none, .int .u32 0, .int .u32 0, .int .u32 0, .int .u32 0, .int .u32 0, .int .u32 0]
def astV (x4 x5 x6 x7 : Int) (rb : Nat) : Array Value := #[.pointer none, .int .i32 0, .int .i32 0, .int .u8 0, .slice none 0 0, .slice none 0 0, .map none, .pointer none, .pointer none, .nilIface, .int .i32 0, .string ⟨#[]⟩, .slice none 0 0, .string ⟨#[]⟩, .map none, .map none, .map none, .map none, .map none, .slice (some ⟨rb, 0, none⟩) 0 0, .map none, .map none, .slice none 0 0, .string ⟨#[]⟩, .int .i32 0, .int .i32 0, .int .i32 0, .int .i32 0, .int .i32 0, .int .i32 0, .int .i32 0, .int .i32 0, .int .u32 x6, .int .u32 x7, .int .u32 0, .int .u32 0, .int .u32 x4, .int .u32 x5, .int .i32 0, .int .u32 0, .int .u32 0, .int .u32 0, .int .u32 0, .bool false, .bool false, .bool false, .int .u8 0]
def metV (x0 : Int) (x1 : Bool) : Array Value := #[.map none, .map none, .map none, .pointer none, .pointer none, .slice none 0 0, .map none, .slice none 0 0, .int .u32 0, .int .u32 0, .bool x1, .int .u8 x0, .bool false, .bool false, .bool false, .bool false]
def repV (x0 : Int) (x1 : Bool) (x4 x5 x6 x7 : Int) (rb : Nat) : Array Value := #[.map none, .map none, .map none, .pointer none, .pointer none, .slice none 0 0, .map none, .slice none 0 0, .int .u32 0, .int .u32 0, .bool x1, .int .u8 x0, .bool false, .bool false, .bool false, .bool false, .pointer none, .int .i32 0, .int .i32 0, .int .u8 0, .slice none 0 0, .slice none 0 0, .map none, .pointer none, .pointer none, .nilIface, .int .i32 0, .string ⟨#[]⟩, .slice none 0 0, .string ⟨#[]⟩, .map none, .map none, .map none, .map none, .map none, .slice (some ⟨rb, 0, none⟩) 0 0, .map none, .map none, .slice none 0 0, .string ⟨#[]⟩, .int .i32 0, .int .i32 0, .int .i32 0, .int .i32 0, .int .i32 0, .int .i32 0, .int .i32 0, .int .i32 0, .int .u32 x6, .int .u32 x7, .int .u32 0, .int .u32 0, .int .u32 x4, .int .u32 x5, .int .i32 0, .int .u32 0, .int .u32 0, .int .u32 0, .int .u32 0, .bool false, .bool false, .bool false, .int .u8 0, .int .u32 0]
theorem built99 : Tryd.prog.built 99 [(74, .int .u8 3), (49, .int .u8 2)] = some opts := by kernel_rfl
theorem built126 (b : Nat) : Tryd.prog.built 126 [(0, .pointer (some ⟨b, 0, none⟩))] = some (ctx0 b) := by kernel_rfl
theorem built181 (x4 x5 x6 x7 : Int) (rb : Nat) : Tryd.prog.built 181 [(31, .int .u8 0), (25, .agg #[.int .u32 x4, .int .u32 x5]), (23, .agg #[.int .u32 x6, .int .u32 x7]), (15, .slice (some ⟨rb, 0, none⟩) 0 0)] = some (astV x4 x5 x6 x7 rb) := by kernel_rfl
theorem built190 (x0 : Int) (x1 : Bool) : Tryd.prog.built 190 [(11, .int .u8 x0), (10, .bool x1)] = some (metV x0 x1) := by kernel_rfl
theorem built192 (x0 : Int) (x1 : Bool) (x4 x5 x6 x7 : Int) (rb : Nat) : Tryd.prog.built 192 [(1, .agg (astV x4 x5 x6 x7 rb)), (0, .agg (metV x0 x1))] = some (repV x0 x1 x4 x5 x6 x7 rb) := by kernel_rfl
theorem info163 : (Tryd.prog.info? 163).map (fun i => (i.zero, i.size, i.bytes)) = some (some (.agg #[.slice none 0 0, .pointer none, .nilIface, .pointer none, .slice none 0 0, .string ⟨#[]⟩, .pointer none, .int .u8 0, .string ⟨#[]⟩, .string ⟨#[]⟩, .string ⟨#[]⟩, .string ⟨#[]⟩, .string ⟨#[]⟩, .string ⟨#[]⟩, .string ⟨#[]⟩, .string ⟨#[]⟩, .int .u8 0, .int .u32 0, .int .u8 0, .bool false, .int .u32 0, .int .u32 0, .int .u8 0, .bool false]), 24, 280) := by kernel_rfl
theorem info141 : (Tryd.prog.info? 141).map (fun i => (i.zero, i.size, i.bytes)) = some (some (.agg #[.pointer none, .pointer none, .string ⟨#[]⟩, .string ⟨#[]⟩, .string ⟨#[]⟩, .string ⟨#[]⟩, .int .u8 0, .int .i32 0, .int .i32 0, .int .i32 0, .int .u32 0, .int .u32 0, .int .u16 0, .int .u8 0, .int .u8 0]), 15, 112) := by kernel_rfl
theorem info198 : (Tryd.prog.info? 198).map (fun i => (i.zero, i.size, i.bytes)) = some (some (.agg #[.pointer none, .string ⟨#[]⟩, .int .u32 0, .int .u32 0, .int .u32 0, .int .u32 0, .int .u32 0, .int .u16 0, .int .u8 0, .int .u8 0]), 10, 48) := by kernel_rfl
theorem wp_buildc {P : Program} {o : Oper} {a : Act} {w : World} {K : Act → World → Prop} {Q : Exit → Act → World → Prop} (t : TypeId) (parts : Array (Nat × Operand)) (ho : o.op = .build t parts) (cells : Array Value)
    (hf : P.built t (parts.map fun (i, x) => (i, a.eval x)).toList = some cells) (h : K (a.put o.dst (.agg cells)) w) : o.wp P a w K Q := by
  refine wp_build t parts ho (by rw [hf]; rfl) ?_
  rw [hf]; exact h
/-- The fields of the files. -/
structure Fs where
  x0 : Nat → Int
  x1 : Nat → Bool
  x4 : Nat → Int
  x5 : Nat → Int
  x6 : Nat → Int
  x7 : Nat → Int
def Fs.row (X : Fs) (i : Nat) : List Value := [.int .u8 (X.x0 i), .bool (X.x1 i), .bool true, .bool false, .int .u32 (X.x4 i), .int .u32 (X.x5 i), .int .u32 (X.x6 i), .int .u32 (X.x7 i), .slice none 0 0]
/-- File i of the context whose files lie in block gf. -/
def Fil (X : Fs) (w0 : Nat) (gf gs i : Nat) (wr : World) : Prop :=
  ∃ h, w0 ≤ h ∧ h < wr.heap.size ∧ h ≠ gf ∧ h ≠ gs ∧ wr.cell? ⟨gf, i * 24 + 2, none⟩ = some (.iface 164 (.pointer (some ⟨h, 0, none⟩))) ∧ wr.cell? ⟨h, 52, none⟩ = some (.int .u32 (X.x4 i)) ∧ wr.cell? ⟨h, 53, none⟩ = some (.int .u32 (X.x5 i)) ∧
    wr.cell? ⟨h, 48, none⟩ = some (.int .u32 (X.x6 i)) ∧ wr.cell? ⟨h, 49, none⟩ = some (.int .u32 (X.x7 i)) ∧ wr.cell? ⟨h, 10, none⟩ = some (.bool (X.x1 i)) ∧ wr.cell? ⟨h, 11, none⟩ = some (.int .u8 (X.x0 i))
structure Lp (X : Fs) (w : World) (cb gf gs n k : Nat) (wr : World) : Prop where
  c10 : wr.cell? ⟨cb, 10, none⟩ = some (.slice (some ⟨gf, 0, none⟩) n n)
  c12 : wr.cell? ⟨cb, 12, none⟩ = some (.slice (some ⟨gs, 0, none⟩) n n)
  fl : ∃ cs, Own wr gf 163 cs ∧ cs.size = n * 24
  sy : ∃ cs, Own wr gs 166 cs ∧ cs.size = n
  dn : ∀ i, i < k → Fil X w.heap.size gf gs i wr
  b : Below w.heap.size w wr
  o : w.heap.size ≤ cb ∧ w.heap.size ≤ gf ∧ w.heap.size ≤ gs ∧ cb ≠ gf ∧ cb ≠ gs ∧ gf ≠ gs
theorem Fil.keep {X : Fs} {w0 gf gs i : Nat} {w w' : World} (h : Fil X w0 gf gs i w) (hs : w.heap.size ≤ w'.heap.size) (hk : ∀ b, b < w.heap.size → b ≠ gf → b ≠ gs → ∀ o, w'.cell? ⟨b, o, none⟩ = w.cell? ⟨b, o, none⟩) (hg : w'.cell? ⟨gf, i * 24 + 2, none⟩ = w.cell? ⟨gf, i * 24 + 2, none⟩) : Fil X w0 gf gs i w' := by
  obtain ⟨b, h0, h1, h2, h3, c, d0, d1, d2, d3, d4, d5⟩ := h
  have hk' := hk b h1 h2 h3
  exact ⟨b, h0, Nat.lt_of_lt_of_le h1 hs, h2, h3, hg.trans c, (hk' _).trans d0, (hk' _).trans d1, (hk' _).trans d2, (hk' _).trans d3, (hk' _).trans d4, (hk' _).trans d5⟩
theorem cell_drew (w : World) (a : Addr) : w.drew.cell? a = w.cell? a := rfl
theorem cell_far (w : World) {b g : Nat} (hb : b ≠ g) (o j : Nat) (v : Value) : (w.setCell ⟨g, o, none⟩ v).cell? ⟨b, j, none⟩ = w.cell? ⟨b, j, none⟩ :=
  World.cell?_setCell_other _ _ _ _ (fun e => hb (by injection e with e1 _; exact e1.symm))
theorem cell_near (w : World) {g : Nat} {o j : Nat} (hj : j ≠ o) (v : Value) : (w.setCell ⟨g, o, none⟩ v).cell? ⟨g, j, none⟩ = w.cell? ⟨g, j, none⟩ :=
  World.cell?_setCell_other _ _ _ _ (fun e => hj (by injection e with _ e2 _; exact e2.symm))
theorem Lp.lts {X : Fs} {w wr : World} {cb gf gs n k : Nat} (h : Lp X w cb gf gs n k wr) : cb < wr.heap.size ∧ gf < wr.heap.size ∧ gs < wr.heap.size := by
  obtain ⟨_, hf, _⟩ := h.fl
  obtain ⟨_, hs, _⟩ := h.sy
  exact ⟨by simpa using World.block_lt_of_cell? wr _ h.c10, hf.lt, hs.lt⟩
theorem Lp.below {X : Fs} {w wr w' : World} {cb gf gs n k : Nat} (h : Lp X w cb gf gs n k wr) (hb : Below wr.heap.size wr w') : Lp X w cb gf gs n k w' := by
  obtain ⟨l1, l2, l3⟩ := h.lts
  obtain ⟨cf, hf, zf⟩ := h.fl
  obtain ⟨cs, hs, zs⟩ := h.sy
  exact ⟨(hb.cell (p := ⟨cb, 10, none⟩) l1).trans h.c10, (hb.cell (p := ⟨cb, 12, none⟩) l1).trans h.c12, ⟨cf, hf.below hb l2, zf⟩, ⟨cs, hs.below hb l3, zs⟩,
    fun i hi => (h.dn i hi).keep hb.size (fun b hbl _ _ o => hb.cell (p := ⟨b, o, none⟩) hbl) (hb.cell (p := ⟨gf, i * 24 + 2, none⟩) l2), h.b.trans (hb.mono h.b.size), h.o⟩
theorem Lp.alloc {X : Fs} {w wr : World} {cb gf gs n k : Nat} (h : Lp X w cb gf gs n k wr) (o : Obj) : Lp X w cb gf gs n k (wr.alloc o) := h.below (by go_grown)
theorem Lp.drew {X : Fs} {w wr : World} {cb gf gs n k : Nat} (h : Lp X w cb gf gs n k wr) : Lp X w cb gf gs n k wr.drew := h.below (below_drew (Below.refl _ _))
theorem Lp.setF {X : Fs} {w wr : World} {cb gf gs n k : Nat} (h : Lp X w cb gf gs n k wr) (o : Nat) (v : Value) (ho : ∀ i, i < k → i * 24 + 2 ≠ o) : Lp X w cb gf gs n k (wr.setCell ⟨gf, o, none⟩ v) := by
  obtain ⟨cf, hf, zf⟩ := h.fl
  obtain ⟨cs, hs, zs⟩ := h.sy
  obtain ⟨o1, o2, o3, o4, o5, o6⟩ := h.o
  exact ⟨(cell_far _ o4 _ _ _).trans h.c10, (cell_far _ o4 _ _ _).trans h.c12, ⟨_, hf.set o v, by simpa using zf⟩, ⟨cs, hs.far (p := ⟨gf, o, none⟩) (fun e => o6 e.symm) v, zs⟩,
    fun i hi => (h.dn i hi).keep (by simp) (fun b _ hb _ j => cell_far _ hb _ _ _) (cell_near _ (ho i hi) _), h.b.setCell o2 _, h.o⟩
theorem Lp.setS {X : Fs} {w wr : World} {cb gf gs n k : Nat} (h : Lp X w cb gf gs n k wr) (o : Nat) (v : Value) : Lp X w cb gf gs n k (wr.setCell ⟨gs, o, none⟩ v) := by
  obtain ⟨cf, hf, zf⟩ := h.fl
  obtain ⟨cs, hs, zs⟩ := h.sy
  obtain ⟨o1, o2, o3, o4, o5, o6⟩ := h.o
  exact ⟨(cell_far _ o5 _ _ _).trans h.c10, (cell_far _ o5 _ _ _).trans h.c12, ⟨cf, hf.far (p := ⟨gs, o, none⟩) o6 v, zf⟩, ⟨_, hs.set o v, by simpa using zs⟩,
    fun i hi => (h.dn i hi).keep (by simp) (fun b _ _ hb j => cell_far _ hb _ _ _) (cell_far _ o6 _ _ _), h.b.setCell o3 _, h.o⟩
/-- File k laid. -/
theorem Lp.next {X : Fs} {w wr : World} {cb gf gs n k : Nat} (h : Lp X w cb gf gs n k wr) (hk : k < n) (rb : Nat) : Lp X w cb gf gs n (k + 1) ((wr.alloc (.cells (repV (X.x0 k) (X.x1 k) (X.x4 k) (X.x5 k) (X.x6 k) (X.x7 k) rb) 192)).setCell ⟨gf, k * 24 + 2, none⟩ (.iface 164 (.pointer (some ⟨wr.heap.size, 0, none⟩)))) := by
  obtain ⟨l1, l2, l3⟩ := h.lts
  have h1 := (h.alloc (.cells (repV (X.x0 k) (X.x1 k) (X.x4 k) (X.x5 k) (X.x6 k) (X.x7 k) rb) 192)).setF (k * 24 + 2) (.iface 164 (.pointer (some ⟨wr.heap.size, 0, none⟩))) (fun i hi => by omega)
  have hn := (Own.new wr 192 (repV (X.x0 k) (X.x1 k) (X.x4 k) (X.x5 k) (X.x6 k) (X.x7 k) rb)).far (p := ⟨gf, k * 24 + 2, none⟩) (by show wr.heap.size ≠ gf; omega) (.iface 164 (.pointer (some ⟨wr.heap.size, 0, none⟩)))
  refine ⟨h1.c10, h1.c12, h1.fl, h1.sy, fun i hi => ?_, h1.b, h1.o⟩
  by_cases e : i = k
  · subst e
    obtain ⟨cf, hf, zf⟩ := h.fl
    refine ⟨wr.heap.size, h.b.size, by simp, by omega, by omega, ?_, (hn.cell _).trans rfl, (hn.cell _).trans rfl, (hn.cell _).trans rfl, (hn.cell _).trans rfl, (hn.cell _).trans rfl, (hn.cell _).trans rfl⟩
    have := ((hf.alloc (.cells (repV (X.x0 i) (X.x1 i) (X.x4 i) (X.x5 i) (X.x6 i) (X.x7 i) rb) 192)).set (i * 24 + 2) (.iface 164 (.pointer (some ⟨wr.heap.size, 0, none⟩)))).cell (i * 24 + 2)
    rw [this, Array.getElem?_setIfInBounds, if_pos rfl, if_pos (by omega)]
  · exact h1.dn i (by omega)
theorem lp0 {X : Fs} {w W3 w1 : World} {cb gf gs n : Nat} {CS cf cs : Array Value} (hC : Own W3 cb 126 CS) (h10 : CS[10]? = some (.slice (some ⟨gf, 0, none⟩) n n)) (h12 : 12 < CS.size) (hF : Own W3 gf 163 cf) (hcf : cf.size = n * 24) (hB : Below w.heap.size w W3) (hb : Below W3.heap.size W3 w1)
    (hos : Own w1 gs 166 cs) (hcs : cs.size = n) (hgs : W3.heap.size ≤ gs) (hcb : w.heap.size ≤ cb) (hgf : w.heap.size ≤ gf) (hne : cb ≠ gf) : Lp X w cb gf gs n 0 (w1.setCell ⟨cb, 12, none⟩ (.slice (some ⟨gs, 0, none⟩) n n)) := by
  have l1 := hC.lt
  have l2 := hF.lt
  have hC1 := hC.below hb l1
  refine ⟨(cell_near _ (by omega) _).trans ((hC1.cell 10).trans h10), ?_, ⟨cf, (hF.below hb l2).far (p := ⟨cb, 12, none⟩) (fun e => hne e.symm) _, hcf⟩, ⟨cs, hos.far (p := ⟨cb, 12, none⟩) (by show gs ≠ cb; omega) _, hcs⟩, fun i hi => by omega, (hB.trans (hb.mono hB.size)).setCell hcb _, ⟨hcb, hgf, by have := hB.size; omega, hne, by omega, by omega⟩⟩
  rw [(hC1.set 12 (.slice (some ⟨gs, 0, none⟩) n n)).cell 12, Array.getElem?_setIfInBounds, if_pos rfl, if_pos h12]
def CtxP (X : Fs) (n : Nat) (w : World) (e : Ending) (w' : World) : Prop := ∃ cb gf gs, e = .returned (.pointer (some ⟨cb, 0, none⟩)) ∧ Lp X w cb gf gs n n w'
theorem cell9 {X : Fs} {w : World} {g o i n : Nat} (hX : ∀ i, i < n → ∀ r, r < 9 → w.cell? ⟨g, o + (i * 9 + r), none⟩ = some ((X.row i).getD r undef)) (hi : i < n) :
    w.cell? ⟨g, o + i * 9, none⟩ = some (.int .u8 (X.x0 i)) ∧ w.cell? ⟨g, o + i * 9 + 1, none⟩ = some (.bool (X.x1 i)) ∧ w.cell? ⟨g, o + i * 9 + 2, none⟩ = some (.bool true) ∧ w.cell? ⟨g, o + i * 9 + 3, none⟩ = some (.bool false) ∧ w.cell? ⟨g, o + i * 9 + 4, none⟩ = some (.int .u32 (X.x4 i)) ∧ w.cell? ⟨g, o + i * 9 + 5, none⟩ = some (.int .u32 (X.x5 i)) ∧ w.cell? ⟨g, o + i * 9 + 6, none⟩ = some (.int .u32 (X.x6 i)) ∧ w.cell? ⟨g, o + i * 9 + 7, none⟩ = some (.int .u32 (X.x7 i)) ∧ w.cell? ⟨g, o + i * 9 + 8, none⟩ = some (.slice none 0 0) :=
  ⟨hX i hi 0 (by omega), hX i hi 1 (by omega), hX i hi 2 (by omega), hX i hi 3 (by omega), hX i hi 4 (by omega), hX i hi 5 (by omega), hX i hi 6 (by omega), hX i hi 7 (by omega), hX i hi 8 (by omega)⟩

set_option maxRecDepth 100000 in
set_option maxHeartbeats 4000000 in
theorem ctx10 (X : Fs) (gF oF n c : Nat) (w : World) (hn : n ≤ 4096) (hF : gF < w.heap.size) (hX : ∀ i, i < n → ∀ r, r < 9 → w.cell? ⟨gF, oF + (i * 9 + r), none⟩ = some ((X.row i).getD r undef)) (hI : Inv w) (hI0 : 0 < w.heap.size) :
    Calls Tryd.prog 10 #[.slice (some ⟨gF, oF, none⟩) n c, .int .u8 3] w (CtxP X n w) := by
  have hmk := run_mkc (P := Tryd.prog) 112 163 _ _ rfl _ _ Tryd.underlying112 info163 n n (Nat.le_refl _) (by omega) (by omega)
  have HX := Lib.hid hX
  have HI := Lib.hid hI
  clear hX hI
  go_enter Tryd.func10, Tryd.ntmps10
  go_wp2_with fail
  refine wp_buildc 99 _ rfl opts (by kernel_rfl) ?_
  go_wp2_with fail
  refine (sym12 n hn _).mono ?_
  rintro e w1 ⟨gs, cs, rfl, hgs, hos, hcs, hb⟩
  have hC := (Own.new (w.alloc (.cells opts 99)) 126 #[.pointer (some ⟨w.heap.size, 0, none⟩), .pointer none, .nilFunc, .nilFunc, .nilFunc, .nilFunc, .int .i8 0, .map none, .nilIface, .pointer none, .slice (some ⟨w.heap.size + 1 + 1, 0, none⟩) n n, .slice none 0 0, .slice none 0 0, .map none, .map none, .slice none 0 0, .slice none 0 0, .slice none 0 0, .slice none 0 0, .nilFunc, .string ⟨#[]⟩, .slice none 0 0, .map none, .int .u32 0, .int .u32 0, .int .u32 0, .int .u32 0, .int .u32 0, .int .u32 0]).alloc (.cells (madeCells #[.slice none 0 0, .pointer none, .nilIface, .pointer none, .slice none 0 0, .string ⟨#[]⟩, .pointer none, .int .u8 0, .string ⟨#[]⟩, .string ⟨#[]⟩, .string ⟨#[]⟩, .string ⟨#[]⟩, .string ⟨#[]⟩, .string ⟨#[]⟩, .string ⟨#[]⟩, .string ⟨#[]⟩, .int .u8 0, .int .u32 0, .int .u8 0, .bool false, .int .u32 0, .int .u32 0, .int .u8 0, .bool false] (n * 24)) 163)
  have hFl := Own.new ((w.alloc (.cells opts 99)).alloc (.cells #[.pointer (some ⟨w.heap.size, 0, none⟩), .pointer none, .nilFunc, .nilFunc, .nilFunc, .nilFunc, .int .i8 0, .map none, .nilIface, .pointer none, .slice (some ⟨w.heap.size + 1 + 1, 0, none⟩) n n, .slice none 0 0, .slice none 0 0, .map none, .map none, .slice none 0 0, .slice none 0 0, .slice none 0 0, .slice none 0 0, .nilFunc, .string ⟨#[]⟩, .slice none 0 0, .map none, .int .u32 0, .int .u32 0, .int .u32 0, .int .u32 0, .int .u32 0, .int .u32 0] 126)) 163 (madeCells #[.slice none 0 0, .pointer none, .nilIface, .pointer none, .slice none 0 0, .string ⟨#[]⟩, .pointer none, .int .u8 0, .string ⟨#[]⟩, .string ⟨#[]⟩, .string ⟨#[]⟩, .string ⟨#[]⟩, .string ⟨#[]⟩, .string ⟨#[]⟩, .string ⟨#[]⟩, .string ⟨#[]⟩, .int .u8 0, .int .u32 0, .int .u8 0, .bool false, .int .u32 0, .int .u32 0, .int .u8 0, .bool false] (n * 24))
  simp only [World.size_alloc] at hC hFl
  have hB : Below w.heap.size w (((w.alloc (.cells opts 99)).alloc (.cells #[.pointer (some ⟨w.heap.size, 0, none⟩), .pointer none, .nilFunc, .nilFunc, .nilFunc, .nilFunc, .int .i8 0, .map none, .nilIface, .pointer none, .slice (some ⟨w.heap.size + 1 + 1, 0, none⟩) n n, .slice none 0 0, .slice none 0 0, .map none, .map none, .slice none 0 0, .slice none 0 0, .slice none 0 0, .slice none 0 0, .nilFunc, .string ⟨#[]⟩, .slice none 0 0, .map none, .int .u32 0, .int .u32 0, .int .u32 0, .int .u32 0, .int .u32 0, .int .u32 0] 126)).alloc (.cells (madeCells #[.slice none 0 0, .pointer none, .nilIface, .pointer none, .slice none 0 0, .string ⟨#[]⟩, .pointer none, .int .u8 0, .string ⟨#[]⟩, .string ⟨#[]⟩, .string ⟨#[]⟩, .string ⟨#[]⟩, .string ⟨#[]⟩, .string ⟨#[]⟩, .string ⟨#[]⟩, .string ⟨#[]⟩, .int .u8 0, .int .u32 0, .int .u8 0, .bool false, .int .u32 0, .int .u32 0, .int .u8 0, .bool false] (n * 24)) 163)) := by go_grown
  have hC1 := hC.below hb hC.lt
  have q12 := hC1.cell 12
  have f12 := hC1.frozen 12
  simp only [List.getElem?_toArray, List.getElem?_cons_succ, List.getElem?_cons_zero] at q12
  have HL : Hid (Lp X w (w.heap.size + 1) (w.heap.size + 1 + 1) gs n 0 (w1.setCell ⟨w.heap.size + 1, 12, none⟩ (.slice (some ⟨gs, 0, none⟩) n n))) := Lib.hid (lp0 hC (by rfl) (by simp) hFl (by simp [size_madeCells]) hB hb hos hcs hgs (by omega) (by omega) (by omega))
  clear hC hFl hB hC1 hos hcs hgs hb hmk
  go_upto_region 4 with fail
  clear q12 f12
  obtain ⟨gf, hgf⟩ : ∃ gf, gf = w.heap.size + 1 + 1 := ⟨_, rfl⟩
  obtain ⟨cb, hcb⟩ : ∃ cb, cb = w.heap.size + 1 := ⟨_, rfl⟩
  simp only [← hgf] at HL ⊢
  simp only [← hcb] at HL ⊢
  clear hgf hcb
  generalize w1.setCell ⟨cb, 12, none⟩ (.slice (some ⟨gs, 0, none⟩) n n) = wS at *
  go_wp2_with fail
  go_loopw [34] (fun i wr => ∃ k : Nat, k ≤ n ∧ i = .int .i64 k ∧ Hid (Lp X w cb gf gs n k wr)) (fun i _ => n - (intOf i).toNat)
  case atStart => exact ⟨0, by omega, rfl, HL⟩
  case round =>
    clear HL
    obtain ⟨k, hk, rfl, HL⟩ := hrel
    obtain ⟨wo, rfl⟩ : ∃ wo : World, wo = wr := ⟨_, rfl⟩
    by_cases hlt : k < n
    · obtain ⟨l0, l1, l2, l3, l4, l5, l6, l7, l8⟩ := cell9 (w := wo) (X := X) (g := gF) (o := oF) (n := n) (fun i hi r hr => (HL.out.b.cell (p := ⟨gF, oF + (i * 9 + r), none⟩) hF).trans (HX.out i hi r hr)) hlt
      have hi0 : (0 : Int) ≤ (k : Int) := by omega
      have hi1 : (k : Int) < (n : Int) := by omega
      go_upto_region 8 with fail
      have hf := (Own.new wo 43 #[.int .u8 (X.x0 k), .bool (X.x1 k), .bool true, .bool false, .int .u32 (X.x4 k), .int .u32 (X.x5 k), .int .u32 (X.x6 k), .int .u32 (X.x7 k), .slice none 0 0]).alloc (.cells (madeCells #[.pointer none, .pointer none, .string ⟨#[]⟩, .string ⟨#[]⟩, .string ⟨#[]⟩, .string ⟨#[]⟩, .int .u8 0, .int .i32 0, .int .i32 0, .int .i32 0, .int .u32 0, .int .u32 0, .int .u16 0, .int .u8 0, .int .u8 0] 0) 141)
      have HL2 := Lib.hid ((HL.out.alloc (.cells #[.int .u8 (X.x0 k), .bool (X.x1 k), .bool true, .bool false, .int .u32 (X.x4 k), .int .u32 (X.x5 k), .int .u32 (X.x6 k), .int .u32 (X.x7 k), .slice none 0 0] 43)).alloc (.cells (madeCells #[.pointer none, .pointer none, .string ⟨#[]⟩, .string ⟨#[]⟩, .string ⟨#[]⟩, .string ⟨#[]⟩, .int .u8 0, .int .i32 0, .int .i32 0, .int .i32 0, .int .u32 0, .int .u32 0, .int .u16 0, .int .u8 0, .int .u8 0] 0) 141))
      have hmk1 : ∀ W, (Instr.makeSlice 128 (.int .i64 0) (.int .i64 0)).run Tryd.prog W = .ok (.slice (some ⟨W.heap.size, 0, none⟩) 0 0) (W.alloc (.cells (madeCells #[.pointer none, .pointer none, .string ⟨#[]⟩, .string ⟨#[]⟩, .string ⟨#[]⟩, .string ⟨#[]⟩, .int .u8 0, .int .i32 0, .int .i32 0, .int .i32 0, .int .u32 0, .int .u32 0, .int .u16 0, .int .u8 0, .int .u8 0] 0) 141)) := run_mkc (P := Tryd.prog) 128 141 _ _ rfl _ _ Tryd.underlying128 info141 0 0 (Nat.le_refl _) (by omega) (by omega)
      clear l0 l1 l2 l3 l4 l5 l6 l7 l8
      go_wp2_with fail
      clear hmk1
      go_loop [48] (fun i => i = .int .i64 0) (fun _ => 0)
      case atStart => rfl
      case round =>
        obtain rfl := hrel
        go_upto_region 18 with fail
        have hlts := HL.out.lts
        obtain ⟨fb, hfb⟩ : ∃ fb, fb = wo.heap.size := ⟨_, rfl⟩
        have hfg : fb ≠ gf := by omega
        have hfs : fb ≠ gs := by omega
        have hfc : fb ≠ cb := by omega
        simp only [← hfb] at hf ⊢
        clear hlts hfb HL
        generalize (wo.alloc (.cells #[.int .u8 (X.x0 k), .bool (X.x1 k), .bool true, .bool false, .int .u32 (X.x4 k), .int .u32 (X.x5 k), .int .u32 (X.x6 k), .int .u32 (X.x7 k), .slice none 0 0] 43)).alloc (.cells (madeCells #[.pointer none, .pointer none, .string ⟨#[]⟩, .string ⟨#[]⟩, .string ⟨#[]⟩, .string ⟨#[]⟩, .int .u8 0, .int .i32 0, .int .i32 0, .int .i32 0, .int .u32 0, .int .u32 0, .int .u16 0, .int .u8 0, .int .u8 0] 0) 141) = wB at *
        have HF := Lib.hid hf
        obtain ⟨cf, hcf, zcf⟩ := HL2.out.fl
        have c10 := HL2.out.c10
        have e2 := hf.cell 2
        simp only [List.getElem?_toArray, List.getElem?_cons_succ, List.getElem?_cons_zero] at e2
        obtain ⟨x23, g23⟩ : ∃ x, wB.cell? ⟨gf, k * 24 + 23, none⟩ = some x := ⟨cf[k * 24 + 23]'(by omega), by rw [hcf.cell]; exact Array.getElem?_eq_getElem (by omega)⟩
        have z23 := hcf.frozen (k * 24 + 23)
        have HLB := Lib.hid (HL2.out.setF (k * 24 + 23) (.bool true) (fun i hi => by omega))
        have HFB := Lib.hid (hf.far (p := ⟨gf, k * 24 + 23, none⟩) hfg (.bool true))
        clear hf hcf HL2 zcf
        go_region
        clear c10 e2 g23 z23
        have HLC := Lib.hid HLB.out.drew
        have hfd := HFB.out.drew
        generalize (wB.setCell ⟨gf, k * 24 + 23, none⟩ (.bool true)).drew = wC at *
        clear HLB HFB HF
        have c10 := HLC.out.c10
        have e0 := hfd.cell 0
        have e1 := hfd.cell 1
        have e4 := hfd.cell 4
        have e5 := hfd.cell 5
        have e6 := hfd.cell 6
        have e7 := hfd.cell 7
        simp only [List.getElem?_toArray, List.getElem?_cons_succ, List.getElem?_cons_zero] at e0 e1 e4 e5 e6 e7
        obtain ⟨cf, hcf, zcf⟩ := HLC.out.fl
        obtain ⟨x2, g2⟩ : ∃ x, wC.cell? ⟨gf, k * 24 + 2, none⟩ = some x := ⟨cf[k * 24 + 2]'(by omega), by rw [hcf.cell]; exact Array.getElem?_eq_getElem (by omega)⟩
        have z2 := hcf.frozen (k * 24 + 2)
        have g2a := new_keep g2
        have z2a : ∀ x, (wC.alloc x).frozen? ⟨gf, k * 24 + 2, none⟩ = false := fun x => (hcf.alloc x).frozen _
        have hcg : cb ≠ gf := HLC.out.o.2.2.2.1
        have HKP : Hid ((∀ x, (wC.alloc x).cell? ⟨cb, 10, none⟩ = some (.slice (some ⟨gf, 0, none⟩) n n)) ∧ (∀ x, (wC.alloc x).cell? ⟨fb, 0, none⟩ = some (.int .u8 (X.x0 k))) ∧ (∀ x, (wC.alloc x).cell? ⟨fb, 1, none⟩ = some (.bool (X.x1 k))) ∧ (∀ x, (wC.alloc x).cell? ⟨fb, 4, none⟩ = some (.int .u32 (X.x4 k))) ∧ (∀ x, (wC.alloc x).cell? ⟨fb, 5, none⟩ = some (.int .u32 (X.x5 k))) ∧ (∀ x, (wC.alloc x).cell? ⟨fb, 6, none⟩ = some (.int .u32 (X.x6 k))) ∧ (∀ x, (wC.alloc x).cell? ⟨fb, 7, none⟩ = some (.int .u32 (X.x7 k)))) := Lib.hid ⟨new_keep c10, new_keep e0, new_keep e1, new_keep e4, new_keep e5, new_keep e6, new_keep e7⟩
        clear hfd hcf zcf
        go_upto_region 19 with fail
        go_region_held3 (fun W => W.cell? ⟨cb, 10, none⟩ = some (.slice (some ⟨gf, 0, none⟩) n n) ∧ W.cell? ⟨fb, 0, none⟩ = some (.int .u8 (X.x0 k)) ∧ W.cell? ⟨fb, 1, none⟩ = some (.bool (X.x1 k)) ∧ W.cell? ⟨fb, 4, none⟩ = some (.int .u32 (X.x4 k)) ∧ W.cell? ⟨fb, 5, none⟩ = some (.int .u32 (X.x5 k)) ∧ W.cell? ⟨fb, 6, none⟩ = some (.int .u32 (X.x6 k)) ∧ W.cell? ⟨fb, 7, none⟩ = some (.int .u32 (X.x7 k)))
          (first | (with_reducible exact ⟨(cell_drew _ _).trans ((cell_far _ hcg _ _ _).trans (HKP.out.1 _)), (cell_drew _ _).trans ((cell_far _ hfg _ _ _).trans (HKP.out.2.1 _)), (cell_drew _ _).trans ((cell_far _ hfg _ _ _).trans (HKP.out.2.2.1 _)), (cell_drew _ _).trans ((cell_far _ hfg _ _ _).trans (HKP.out.2.2.2.1 _)), (cell_drew _ _).trans ((cell_far _ hfg _ _ _).trans (HKP.out.2.2.2.2.1 _)), (cell_drew _ _).trans ((cell_far _ hfg _ _ _).trans (HKP.out.2.2.2.2.2.1 _)), (cell_drew _ _).trans ((cell_far _ hfg _ _ _).trans (HKP.out.2.2.2.2.2.2 _))⟩) | (with_reducible exact ⟨(cell_far _ hcg _ _ _).trans (HKP.out.1 _), (cell_far _ hfg _ _ _).trans (HKP.out.2.1 _), (cell_far _ hfg _ _ _).trans (HKP.out.2.2.1 _), (cell_far _ hfg _ _ _).trans (HKP.out.2.2.2.1 _), (cell_far _ hfg _ _ _).trans (HKP.out.2.2.2.2.1 _), (cell_far _ hfg _ _ _).trans (HKP.out.2.2.2.2.2.1 _), (cell_far _ hfg _ _ _).trans (HKP.out.2.2.2.2.2.2 _)⟩) | exact ⟨HKP.out.1 _, HKP.out.2.1 _, HKP.out.2.2.1 _, HKP.out.2.2.2.1 _, HKP.out.2.2.2.2.1 _, HKP.out.2.2.2.2.2.1 _, HKP.out.2.2.2.2.2.2 _⟩ | exact ⟨c10, e0, e1, e4, e5, e6, e7⟩)
          (fail)
        have HLD : Hid (Lp X w cb gf gs n (k + 1) (((wC.alloc (.cells #[.map none, .map none, .map none, .pointer none, .pointer none, .slice none 0 0, .map none, .slice none 0 0, .int .u32 0, .int .u32 0, .bool (X.x1 k), .int .u8 (X.x0 k), .bool false, .bool false, .bool false, .bool false, .pointer none, .int .i32 0, .int .i32 0, .int .u8 0, .slice none 0 0, .slice none 0 0, .map none, .pointer none, .pointer none, .nilIface, .int .i32 0, .string ⟨#[]⟩, .slice none 0 0, .string ⟨#[]⟩, .map none, .map none, .map none, .map none, .map none, .slice (some ⟨fb + 1, 0, none⟩) 0 0, .map none, .map none, .slice none 0 0, .string ⟨#[]⟩, .int .i32 0, .int .i32 0, .int .i32 0, .int .i32 0, .int .i32 0, .int .i32 0, .int .i32 0, .int .i32 0, .int .u32 (X.x6 k), .int .u32 (X.x7 k), .int .u32 0, .int .u32 0, .int .u32 (X.x4 k), .int .u32 (X.x5 k), .int .i32 0, .int .u32 0, .int .u32 0, .int .u32 0, .int .u32 0, .bool false, .bool false, .bool false, .int .u8 0, .int .u32 0] 192)).setCell ⟨gf, k * 24 + 2, none⟩ (.iface 164 (.pointer (some ⟨wC.heap.size, 0, none⟩)))).drew)) := Lib.hid (HLC.out.next hlt (fb + 1)).drew
        clear c10 e0 e1 e4 e5 e6 e7 g2 z2 g2a z2a hcg HKP HLC x2
        go_upto_region 20 with fail
        generalize ((wC.alloc (.cells #[.map none, .map none, .map none, .pointer none, .pointer none, .slice none 0 0, .map none, .slice none 0 0, .int .u32 0, .int .u32 0, .bool (X.x1 k), .int .u8 (X.x0 k), .bool false, .bool false, .bool false, .bool false, .pointer none, .int .i32 0, .int .i32 0, .int .u8 0, .slice none 0 0, .slice none 0 0, .map none, .pointer none, .pointer none, .nilIface, .int .i32 0, .string ⟨#[]⟩, .slice none 0 0, .string ⟨#[]⟩, .map none, .map none, .map none, .map none, .map none, .slice (some ⟨fb + 1, 0, none⟩) 0 0, .map none, .map none, .slice none 0 0, .string ⟨#[]⟩, .int .i32 0, .int .i32 0, .int .i32 0, .int .i32 0, .int .i32 0, .int .i32 0, .int .i32 0, .int .i32 0, .int .u32 (X.x6 k), .int .u32 (X.x7 k), .int .u32 0, .int .u32 0, .int .u32 (X.x4 k), .int .u32 (X.x5 k), .int .i32 0, .int .u32 0, .int .u32 0, .int .u32 0, .int .u32 0, .bool false, .bool false, .bool false, .int .u8 0, .int .u32 0] 192)).setCell ⟨gf, k * 24 + 2, none⟩ (.iface 164 (.pointer (some ⟨wC.heap.size, 0, none⟩)))).drew = wD at *
        have hmk2 : ∀ W, (Instr.makeSlice 166 (.int .i64 8) (.int .i64 8)).run Tryd.prog W = .ok (.slice (some ⟨W.heap.size, 0, none⟩) 8 8) (W.alloc (.cells (madeCells #[.pointer none, .string ⟨#[]⟩, .int .u32 0, .int .u32 0, .int .u32 0, .int .u32 0, .int .u32 0, .int .u16 0, .int .u8 0, .int .u8 0] 80) 198)) := run_mkc (P := Tryd.prog) 166 198 _ _ rfl _ _ Tryd.underlying166 info198 8 8 (Nat.le_refl _) (by omega) (by omega)
        go_wp2_with fail
        clear hmk2
        go_loopw [114] (fun i wr => ∃ j : Nat, j ≤ 8 ∧ i = .int .i64 j ∧ Hid (∃ cs, Own wr wD.heap.size 198 cs ∧ cs.size = 80) ∧ Hid (Below wD.heap.size wD wr)) (fun i _ => 8 - (intOf i).toNat)
        case atStart => exact ⟨0, by omega, rfl, Lib.hid ⟨_, Own.new _ _ _, by simp [size_madeCells]⟩, Lib.hid (by go_grown)⟩
        case round =>
          obtain ⟨j, hj, rfl, HO, HB⟩ := hrel
          obtain ⟨wq, rfl⟩ : ∃ wq : World, wq = wr := ⟨_, rfl⟩
          have HE := Lib.hid (HLD.out.below HB.out)
          by_cases hj8 : j < 8
          · obtain ⟨cs, ho, hcs⟩ := HO.out
            have hi := HI.out.below HE.out.b hI0
            have i0 := hi.1
            have i1 := hi.2
            have hj0 : (0 : Int) ≤ (j : Int) := by omega
            have hj1 : (j : Int) < 8 := by omega
            have p2 : wq.cell? ⟨wD.heap.size, j * 10 + 2, none⟩ = some (cs[j * 10 + 2]'(by omega)) := by rw [ho.cell]; exact Array.getElem?_eq_getElem (by omega)
            have p3 : wq.cell? ⟨wD.heap.size, j * 10 + 3, none⟩ = some (cs[j * 10 + 3]'(by omega)) := by rw [ho.cell]; exact Array.getElem?_eq_getElem (by omega)
            generalize cs[j * 10 + 2]'_ = y2 at p2
            generalize cs[j * 10 + 3]'_ = y3 at p3
            have z2 := ho.frozen (j * 10 + 2)
            have z3 := ho.frozen (j * 10 + 3)
            have HO2 : Hid (∃ cs, Own ((wq.setCell ⟨wD.heap.size, j * 10 + 2, none⟩ (.int .u32 4294967295)).setCell ⟨wD.heap.size, j * 10 + 3, none⟩ (.int .u32 4294967295)) wD.heap.size 198 cs ∧ cs.size = 80) := Lib.hid ⟨_, (ho.set _ _).set _ _, by simpa using hcs⟩
            have HB2 : Hid (Below wD.heap.size wD ((wq.setCell ⟨wD.heap.size, j * 10 + 2, none⟩ (.int .u32 4294967295)).setCell ⟨wD.heap.size, j * 10 + 3, none⟩ (.int .u32 4294967295))) := Lib.hid ((HB.out.setCell (Nat.le_refl _) _).setCell (Nat.le_refl _) _)
            have hd0 : wD.heap.size ≠ 0 := by have := HLD.out.b.size; omega
            clear ho hcs hi
            go_wp2_with fail
            go_roundw
            case rel => exact ⟨j + 1, by omega, by go_num, HO2, HB2⟩
            case measure => simp [intOf]; omega
          · obtain rfl : j = 8 := by omega
            have c12 := HE.out.c12
            obtain ⟨cs, ho, hcs⟩ := HE.out.sy
            have p0 : wq.cell? ⟨gs, k, none⟩ = some (cs[k]'(by omega)) := by rw [ho.cell]; exact Array.getElem?_eq_getElem (by omega)
            generalize cs[k]'_ = y0 at p0
            have z0 := ho.frozen k
            have HS := Lib.hid (HE.out.setS k (.slice (some ⟨wD.heap.size, 0, none⟩) 8 8))
            clear ho hcs
            go_wp2_with fail
            go_roundw
            case rel => exact ⟨k + 1, by omega, by go_num, HS⟩
            case measure => simp [intOf]; omega
    · obtain rfl : k = n := by omega
      go_wp2_with fail
      go_ret
      exact ⟨cb, gf, gs, rfl, HL.out⟩
end Go.Proofs.YtnchgmomfhollaaDoor.Kc
