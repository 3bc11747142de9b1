/-
  A buffer of bytes that the call has made and that grows by append: its law at 'append(buf, c)', and the frame beside other blocks. Condition: fewer than 2^47 bytes.
-/
import Derived.Test.YtcljenkgbbbfpaaDoorRows
import Derived.Test.YtcljenkgbbbfpaaDoorMem
import Derived.Test.YtcljenkgbbbfpaaDoorBit
import Derived.WalkKit
import Derived.Below
import Derived.Laws.AppendOwn
import Derived.Maps.AppendAt
import Derived.OwnWalk
import Derived.Lib.Hide
import Derived.Lib.RuneBytes
import Derived.Laws.BytesArg
import Derived.Laws.Slices
namespace Go.Proofs.YtcljenkgbbbfpaaDoor.Ap
open Go.RowKit Mem
set_option linter.unusedVariables false
def bytesV (l : List Int) : List Value := l.map (Value.int .u8)
theorem bytesV_append (a b : List Int) : bytesV (a ++ b) = bytesV a ++ bytesV b := by simp [bytesV]
theorem bytesV_len (l : List Int) : (bytesV l).length = l.length := by simp [bytesV]
theorem info8 : (Tryd.prog.info? 5).map (fun i => (i.zero, i.size, i.bytes)) = some (some (.int .u8 0), 1, 1) := by kernel_rfl
/-- Since W0 nothing old but the block 'row' has been written; v holds l. -/
structure Bf (B : Nat) (W0 : World) (row : Option Nat) (v : Value) (l : List Int) (w : World) : Prop where
  own : w.ownsRow B 5 1 v l.length (bytesV l)
  gr : W0.grownBy w row
  blk : v.ownBlock = row ∨ ∃ k, v.ownBlock = some k ∧ W0.heap.size ≤ k
  base : B ≤ W0.heap.size
theorem grown_refl (w : World) (row : Option Nat) : w.grownBy w row := ⟨rfl, rfl, rfl, Nat.le_refl _, fun _ _ _ => rfl⟩
theorem Bf.start {B : Nat} {w : World} {v : Value} {l : List Int} (h : w.ownsRow B 5 1 v l.length (bytesV l)) (hB : B ≤ w.heap.size) : Bf B w v.ownBlock v l w :=
  ⟨h, grown_refl _ _, .inl rfl, hB⟩
theorem Bf.size {B : Nat} {W0 w : World} {row : Option Nat} {v : Value} {l : List Int} (h : Bf B W0 row v l w) : W0.heap.size ≤ w.heap.size := h.gr.size
theorem grown_trans {W0 w w' : World} {row r : Option Nat} (h : W0.grownBy w row) (h2 : w.grownBy w' r) (hr : r = row ∨ ∃ k, r = some k ∧ W0.heap.size ≤ k) : W0.grownBy w' row := by
  refine ⟨h2.os.trans h.os, h2.tape.trans h.tape, h2.output.trans h.output, Nat.le_trans h.size h2.size, fun k hk hne => ?_⟩
  rw [h2.block k (Nat.lt_of_lt_of_le hk h.size) ?_]
  · exact h.block k hk hne
  · rcases hr with rfl | ⟨j, rfl, hj⟩
    · exact hne
    · intro e
      injection e with e
      omega
theorem Bf.alloc {B : Nat} {W0 w : World} {row : Option Nat} {v : Value} {l : List Int} (h : Bf B W0 row v l w) (o : Obj) : Bf B W0 row v l (w.alloc o) :=
  ⟨h.own.alloc o, grown_trans h.gr (World.grownBy_alloc w o row) (.inl rfl), h.blk, h.base⟩
theorem one_int (c : Int) : ∀ u ∈ [Value.int .u8 c], u.oneCell' = true := by
  intro u hu
  simp at hu
  subst hu
  rfl
/-- 'append(buf, c)'. -/
theorem push {ops : Array Oper} {rest : List Oper} {o : Oper} {a : Act} {Q : Exit → Act → World → Prop} (hgd : o.guard = none) (s x : Operand)
    (ho : o.op = .call { callee := .builtin .append, args := #[s, x], argTypes := #[66, 66] })
    (B : Nat) (W0 w0 : World) (row : Option Nat) (v : Value) (l : List Int) (c : Int) (hs : a.eval s = v) (hb : Bf B W0 row v l w0)
    (hx : a.eval x = .slice (some ⟨w0.heap.size, 0, none⟩) 1 1) (hlen : l.length + 1 ≤ 140737488355328)
    (h : ∀ v' w', Bf B W0 row v' (l ++ [c]) w' → wpList Tryd.prog ops Q rest (a.put o.dst v') w') : wpList Tryd.prog ops Q (o :: rest) a (w0.alloc (.cells #[.int .u8 c] 5)) := by
  obtain ⟨i0, hi, hz0, hz1, hz2⟩ := info_parts info8
  have hb' := hb.alloc (.cells #[.int .u8 c] 5)
  refine wpList_append_own_at _ hgd s x 66 ho B 5 i0 (.int .u8 0) 1 1 Tryd.underlying66 hi hz0 hz1 hz2 rfl (by decide) v l.length (bytesV l) hs hb'.own ⟨w0.heap.size, 0, none⟩ 1 1 [.int .u8 c] hx rfl (cell_one_new _ _ _) (one_int _) (by unfold maxLen; omega) (by omega) (Nat.le_trans hb'.base hb'.gr.size) ?_
  intro v' w' ho' hg _ hat
  refine h v' w' ⟨?_, grown_trans hb'.gr hg hb'.blk, ?_, hb.base⟩
  · rw [bytesV_append, List.length_append]; exact ho'
  · rcases hat with e | e
    · rw [e]; exact hb'.blk
    · exact .inr ⟨_, e, hb'.gr.size⟩
/-- 'append(buf, c1, c2, ..)'. -/
theorem pushN {ops : Array Oper} {rest : List Oper} {o : Oper} {a : Act} {Q : Exit → Act → World → Prop} (hgd : o.guard = none) (s x : Operand)
    (ho : o.op = .call { callee := .builtin .append, args := #[s, x], argTypes := #[66, 66] })
    (B : Nat) (W0 w0 : World) (row : Option Nat) (v : Value) (l l0 : List Int) (m : Nat) (cs : Array Value) (hcs : cs.toList = bytesV l0) (hm : l0.length = m) (hs : a.eval s = v) (hb : Bf B W0 row v l w0)
    (hx : a.eval x = .slice (some ⟨w0.heap.size, 0, none⟩) m m) (hlen : l.length + m ≤ 140737488355328)
    (h : ∀ v' w', Bf B W0 row v' (l ++ l0) w' → wpList Tryd.prog ops Q rest (a.put o.dst v') w') : wpList Tryd.prog ops Q (o :: rest) a (w0.alloc (.cells cs 5)) := by
  obtain ⟨i0, hi, hz0, hz1, hz2⟩ := info_parts info8
  have hb' := hb.alloc (.cells cs 5)
  subst hm
  refine wpList_append_own_at _ hgd s x 66 ho B 5 i0 (.int .u8 0) 1 1 Tryd.underlying66 hi hz0 hz1 hz2 rfl (by decide) v l.length (bytesV l) hs hb'.own ⟨w0.heap.size, 0, none⟩ l0.length l0.length (bytesV l0) hx (by rw [bytesV_len, Nat.mul_one]) (fun j u hj => ?_) (fun u hu => ?_) (by unfold maxLen; omega) (by omega) (Nat.le_trans hb'.base hb'.gr.size) ?_
  · rw [add_none, Nat.zero_add, (Own.new w0 5 cs).cell j, ← hj, ← hcs]; simp
  · obtain ⟨c, _, rfl⟩ := List.mem_map.1 hu
    rfl
  · intro v' w' ho' hg _ hat
    refine h v' w' ⟨?_, grown_trans hb'.gr hg hb'.blk, ?_, hb.base⟩
    · rw [bytesV_append, List.length_append]; exact ho'
    · rcases hat with e | e
      · rw [e]; exact hb'.blk
      · exact .inr ⟨_, e, hb'.gr.size⟩
/-- Two buffers side by side: the one that was not written stands, and they are still apart. -/
theorem Bf.other {B B' : Nat} {W0 w : World} {v0 v u : Value} {l : List Int} {n : Nat} {xs : List Value} (h : Bf B W0 v0.ownBlock v l w) (hu : W0.ownsRow B' 5 1 u n xs) (hne : u.ownBlock = none ∨ u.ownBlock ≠ v0.ownBlock) :
    w.ownsRow B' 5 1 u n xs ∧ (u.ownBlock = none ∨ u.ownBlock ≠ v.ownBlock) := by
  refine ⟨hu.kept h.gr hne, ?_⟩
  rcases hne with e | e
  · exact .inl e
  · refine .inr fun e2 => ?_
    rcases h.blk with b | ⟨k, b, hk⟩
    · exact e (e2.trans b)
    · have := (hu.lt k (e2.trans b)).2
      omega
def Apart (a b : Value) : Prop := ∀ k, a.ownBlock = some k → b.ownBlock ≠ some k
theorem Apart.symm {a b : Value} (h : Apart a b) : Apart b a := fun k hb ha => h k ha hb
theorem Apart.kept {w w' : World} {B : Nat} {v u : Value} {n : Nat} {xs : List Value} (ha : Apart v u) (hg : w.grownBy w' v.ownBlock) (hu : w.ownsRow B 5 1 u n xs) : w'.ownsRow B 5 1 u n xs := by
  refine hu.kept hg ?_
  cases e : u.ownBlock with
  | none => exact .inl rfl
  | some j => exact .inr fun e2 => ha j e2.symm e
/-- Two buffers side by side: the one that was not written stands, and they are still apart. -/
theorem Bf.apart {B B' : Nat} {W0 w : World} {v0 v u : Value} {l : List Int} {n : Nat} {xs : List Value} (h : Bf B W0 v0.ownBlock v l w) (hu : W0.ownsRow B' 5 1 u n xs) (ha : Apart v0 u) :
    w.ownsRow B' 5 1 u n xs ∧ Apart v u := by
  refine ⟨ha.kept h.gr hu, fun k hk hu' => ?_⟩
  rcases h.blk with b | ⟨j, b, hj⟩
  · exact ha k (b.symm.trans hk) hu'
  · have := (hu.lt k hu').2
    rw [b] at hk
    injection hk with hk
    omega
theorem Bf.below {B : Nat} {W0 w : World} {v0 v : Value} {l l0 : List Int} {n : Nat} (h : Bf B W0 v0.ownBlock v l w) (h0 : W0.ownsRow B 5 1 v0 n (bytesV l0)) : Below B W0 w :=
  (Below.refl B W0).grown h.gr h.base fun k hk => (h0.lt k hk).1
theorem conv_nil (w : World) : (convert 66 9 (.slice none 0 0)).run Tryd.prog w = .ok (.string (strOfNums [])) w := by kernel_rfl
/-- 'string(buf)'. -/
theorem conv {B : Nat} {w : World} {v : Value} {l : List Int} (h : w.ownsRow B 5 1 v l.length (bytesV l)) : (convert 66 9 v).run Tryd.prog w = .ok (.string (strOfNums l)) w := by
  by_cases hl : l = []
  · subst hl
    rcases h.2 with ⟨hv, _⟩ | ⟨g, cap, cur, hv, hg, hrest⟩
    · rw [hv]; exact conv_nil w
    · rw [hv]
      exact run_convert_bytes_arg w 66 5 Tryd.underlying66 Tryd.underlying5 g 0 0 cap [] rfl (fun i hi => absurd hi (by omega)) 9 Tryd.underlying9
  · have hpos : 0 < l.length := List.length_pos_iff.2 hl
    rcases h.2 with ⟨hv, h0⟩ | ⟨g, cap, cur, hv, _⟩
    · omega
    · subst hv
      refine run_convert_bytes_arg w 66 5 Tryd.underlying66 Tryd.underlying5 g 0 l.length cap l rfl (fun i hi => ?_) 9 Tryd.underlying9
      rw [Nat.zero_add, h.cellAt i (by omega), bytesV, List.getElem?_map, List.getElem?_eq_getElem hi, List.getD_eq_getElem?_getD, List.getElem?_eq_getElem hi]
      rfl
/-- A contract: l0 is pushed behind l. -/
def Put (B : Nat) (v : Value) (l l0 : List Int) (w : World) (e : Ending) (w' : World) : Prop := ∃ v', e = .returned v' ∧ Bf B w v.ownBlock v' (l ++ l0) w'
end Go.Proofs.YtcljenkgbbbfpaaDoor.Ap
