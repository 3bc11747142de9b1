/-
  A made block that is filled row by row ('Filled'); a store of several cells into its midst; what a region that draws keeps beside such a store ('Kr'). No condition.
-/
import Derived.Test.YtmjfdhgfpgeboacRow
import Derived.Test.YtmjfdhgfpgeboacOrw
import Derived.Test.YtmjfdhgfpgeboacHo
import Derived.Deep.MidRow
import Derived.Deep.WholeRow
import Derived.Lib.SliceRun
import Derived.Lib.LazyBuf
namespace Go.Proofs.Ytmjfdhgfpgeboac.Fil
open Go.RowKit Go.PlainAid Mem Ho Rws Orw
set_option linter.unusedVariables false
/-- The rows F 0, F 1, .. (K cells each) that a made block holds up to k. -/
def Filled (w : World) (g : Nat) (t : TypeId) (K n k : Nat) (F : Nat → List Value) : Prop := ∃ cs, Own w g t cs ∧ cs.size = n * K ∧ ∀ i, i < k → ∀ q, q < K → cs[i * K + q]? = (F i)[q]?
theorem Filled.own {w w' : World} {g : Nat} {t : TypeId} {K n k : Nat} {F : Nat → List Value} (h : Filled w g t K n k F) (e : ∀ cs, Own w g t cs → Own w' g t cs) : Filled w' g t K n k F := by
  obtain ⟨cs, o, s, hc⟩ := h
  exact ⟨cs, e cs o, s, hc⟩
theorem Filled.below {w w' : World} {g : Nat} {t : TypeId} {K n k : Nat} {F : Nat → List Value} (h : Filled w g t K n k F) (hb : Below w.heap.size w w') : Filled w' g t K n k F := h.own fun cs o => o.below hb o.lt
theorem Filled.lt {w : World} {g : Nat} {t : TypeId} {K n k : Nat} {F : Nat → List Value} (h : Filled w g t K n k F) : g < w.heap.size := by
  obtain ⟨cs, o, s, hc⟩ := h
  exact o.lt
theorem Filled.zero {w : World} {g : Nat} {t : TypeId} {K n : Nat} {cs : Array Value} {F : Nat → List Value} (h : Own w g t cs) (hs : cs.size = n * K) : Filled w g t K n 0 F := ⟨cs, h, hs, fun i hi => absurd hi (by omega)⟩
theorem Filled.there {w : World} {g : Nat} {t : TypeId} {K n k : Nat} {F : Nat → List Value} (h : Filled w g t K n k F) (hk : k < n) : w.there g (k * K) K := by
  obtain ⟨cs, o, s, hc⟩ := h
  refine Own.there o _ _ ?_
  have := Nat.mul_le_mul_right K (show k + 1 ≤ n from hk)
  rw [Nat.add_mul, Nat.one_mul] at this
  omega
theorem Filled.set {w : World} {g : Nat} {t : TypeId} {K n k : Nat} {F : Nat → List Value} {vs : List Value} (h : Filled w g t K n k F) (hk : k < n) (hv : vs = F k) (hl : vs.length = K) : Filled (w.setCells g (k * K) vs) g t K n (k + 1) F := by
  obtain ⟨cs, o, s, hc⟩ := h
  have hb := Nat.mul_le_mul_right K (show k + 1 ≤ n from hk)
  rw [Nat.add_mul, Nat.one_mul] at hb
  refine ⟨_, Own.setCells vs (k * K) w cs o, by rw [putL_size]; exact s, fun i hi q hq => ?_⟩
  rcases Nat.lt_or_ge i k with h1 | h1
  · have hb2 := Nat.mul_le_mul_right K (show i + 1 ≤ k from h1)
    rw [Nat.add_mul, Nat.one_mul] at hb2
    rw [putL_out _ _ _ _ (by omega)]
    exact hc i h1 q hq
  · obtain rfl : k = i := by omega
    rw [putL_in vs (k * K) cs q (by omega) (by omega), ← hv, List.getElem?_eq_getElem (by omega)]
theorem Filled.far {w : World} {g b : Nat} {t : TypeId} {K n k o : Nat} {F : Nat → List Value} {vs : List Value} (h : Filled w g t K n k F) (hb : g ≠ b) : Filled (w.setCells b o vs) g t K n k F := h.own fun cs oo => Own.farCells hb _ _ _ oo
theorem Filled.rd {w : World} {g : Nat} {t : TypeId} {K n : Nat} {F : Nat → List Value} (hK : 0 < K) (hF : ∀ i, i < n → (F i).length = K) (h : Filled w g t K n n F) : Rd w w.heap.size K (some ⟨g, 0, none⟩) n (rowF K F) := by
  obtain ⟨cs, o, s, hc⟩ := h
  refine o.rd fun j hj => ?_
  have hi : j / K < n := by rw [Nat.div_lt_iff_lt_mul hK]; exact hj
  have hq := Nat.mod_lt j hK
  have := hc (j / K) hi (j % K) hq
  rw [Nat.div_add_mod'] at this
  rw [this]
  unfold rowF
  rw [List.getD_eq_getElem?_getD, List.getElem?_eq_getElem (by rw [hF _ hi]; exact hq)]
  rfl
theorem Filled.congr {w : World} {g : Nat} {t : TypeId} {K n k : Nat} {F G : Nat → List Value} (h : Filled w g t K n k F) (e : ∀ i, i < k → F i = G i) : Filled w g t K n k G := by
  obtain ⟨cs, o, s, hc⟩ := h
  exact ⟨cs, o, s, fun i hi q hq => by rw [← e i hi]; exact hc i hi q hq⟩
theorem Filled.cell {w : World} {g : Nat} {t : TypeId} {K n k : Nat} {F : Nat → List Value} (h : Filled w g t K n k F) {i q : Nat} (hi : i < k) (hq : q < K) : w.cell? ⟨g, i * K + q, none⟩ = (F i)[q]? := by
  obtain ⟨cs, o, s, hc⟩ := h
  rw [o.cell]
  exact hc i hi q hq
theorem own_ne {w : World} {g g' : Nat} {t t' : TypeId} {cs cs' : Array Value} (h : Own w g t cs) (h' : Own w g' t' cs') (ht : t ≠ t') : g ≠ g' := fun e => by
  subst e
  unfold Own at h h'
  rw [h] at h'
  simp at h'
  exact ht h'.2
theorem Filled.ne {w : World} {g g' : Nat} {t t' : TypeId} {K n k K' n' k' : Nat} {F F' : Nat → List Value} (h : Filled w g t K n k F) (h' : Filled w g' t' K' n' k' F') (ht : t ≠ t') : g ≠ g' := by
  obtain ⟨cs, o, _⟩ := h
  obtain ⟨cs', o', _⟩ := h'
  exact own_ne o o' ht
/-- A store of K cells into the midst of a block. -/
theorem wpList_put {P : Program} {ops : Array Oper} {rest : List Oper} {op : Oper} {a : Act} {w : World} {Q : Exit → Act → World → Prop} (hgd : op.guard = none) (ty : TypeId) (x y : Operand) (ho : op.op = .store ty x y)
    (b o K : Nat) (vs : List Value) (hx : a.eval x = .pointer (some ⟨b, o, none⟩)) (hy : a.eval y = .agg vs.toArray) (ht : w.there b o K) (hl : vs.length = K) (hi : (P.info? ty).map (·.size) = some K) (h1 : ∀ v ∈ vs, v.oneCell' = true)
    (h : wpList P ops Q rest (a.put op.dst undef) (w.setCells b o vs)) : wpList P ops Q (op :: rest) a w := by
  subst hl
  exact wpList_store_mid hgd ty x y ho b o vs.toArray hx hy (by simpa using ht) (by simpa using hi) (all_oneCell_toArray h1) (by simpa using h)
/-- W is w0 but for new blocks and the n cells of block g from o on, which are there. -/
structure Kr (w0 : World) (g o n : Nat) (W : World) : Prop where
  cell : ∀ p : Addr, p.block < w0.heap.size → p.block ≠ g → W.cell? p = w0.cell? p
  there : W.there g o n
  size : w0.heap.size ≤ W.heap.size
  lt : g < w0.heap.size
theorem Kr.start {w : World} {g o n : Nat} (h : w.there g o n) (hg : g < w.heap.size) : Kr w g o n w := ⟨fun _ _ _ => rfl, h, Nat.le_refl _, hg⟩
theorem Kr.drew {w0 W : World} {g o n : Nat} (h : Kr w0 g o n W) : Kr w0 g o n W.drew := ⟨h.cell, h.there, h.size, h.lt⟩
theorem Kr.below {w0 W W1 : World} {g o n : Nat} (h : Kr w0 g o n W) (hb : Below W.heap.size W W1) : Kr w0 g o n W1 :=
  ⟨fun p hp hg => (hb.cell (p := p) (Nat.lt_of_lt_of_le hp h.size)).trans (h.cell p hp hg), there_below h.there (Nat.lt_of_lt_of_le h.lt h.size) hb, Nat.le_trans h.size hb.size, h.lt⟩
theorem Kr.put {w0 W : World} {g o n : Nat} (h : Kr w0 g o n W) (vs : List Value) : Kr w0 g o n (W.setCells g o vs) :=
  ⟨fun p hp hg => (World.cell?_setCells_out g vs o W p (fun e _ => absurd e hg)).trans (h.cell p hp hg), World.there_setCells h.there g o vs, by rw [size_setCells]; exact h.size, h.lt⟩
theorem there2 {W : World} {g o : Nat} (T : W.there g o 2) : ∃ x0 x1, W.cell? ⟨g, o, none⟩ = some x0 ∧ W.cell? ⟨g, o + 1, none⟩ = some x1 ∧ W.frozen? ⟨g, o, none⟩ = false ∧ W.frozen? ⟨g, o + 1, none⟩ = false := by
  obtain ⟨x0, hx0⟩ := Option.isSome_iff_exists.1 (T 0 (by omega)).1
  obtain ⟨x1, hx1⟩ := Option.isSome_iff_exists.1 (T 1 (by omega)).1
  exact ⟨x0, x1, hx0, hx1, (T 0 (by omega)).2, (T 1 (by omega)).2⟩
theorem Kr.put2 {w0 W : World} {g o : Nat} (h : Kr w0 g o 2 W) (v0 v1 : Value) : Kr w0 g o 2 ((W.setCell ⟨g, o, none⟩ v0).setCell ⟨g, o + 1, none⟩ v1) := h.put [v0, v1]
theorem chain2 (W : World) (g o : Nat) (v0 v1 : Value) : ((W.setCell ⟨g, o, none⟩ v0).setCell ⟨g, o + 1, none⟩ v1) = W.setCells g o [v0, v1] := rfl
theorem there6 {W : World} {g o : Nat} (T : W.there g o 6) : ∃ x0 x1 x2 x3 x4 x5, W.cell? ⟨g, o, none⟩ = some x0 ∧ W.cell? ⟨g, o + 1, none⟩ = some x1 ∧ W.cell? ⟨g, o + 2, none⟩ = some x2 ∧ W.cell? ⟨g, o + 3, none⟩ = some x3 ∧ W.cell? ⟨g, o + 4, none⟩ = some x4 ∧ W.cell? ⟨g, o + 5, none⟩ = some x5 ∧ W.frozen? ⟨g, o, none⟩ = false ∧ W.frozen? ⟨g, o + 1, none⟩ = false ∧ W.frozen? ⟨g, o + 2, none⟩ = false ∧ W.frozen? ⟨g, o + 3, none⟩ = false ∧ W.frozen? ⟨g, o + 4, none⟩ = false ∧ W.frozen? ⟨g, o + 5, none⟩ = false := by
  obtain ⟨x0, hx0⟩ := Option.isSome_iff_exists.1 (T 0 (by omega)).1
  obtain ⟨x1, hx1⟩ := Option.isSome_iff_exists.1 (T 1 (by omega)).1
  obtain ⟨x2, hx2⟩ := Option.isSome_iff_exists.1 (T 2 (by omega)).1
  obtain ⟨x3, hx3⟩ := Option.isSome_iff_exists.1 (T 3 (by omega)).1
  obtain ⟨x4, hx4⟩ := Option.isSome_iff_exists.1 (T 4 (by omega)).1
  obtain ⟨x5, hx5⟩ := Option.isSome_iff_exists.1 (T 5 (by omega)).1
  exact ⟨x0, x1, x2, x3, x4, x5, hx0, hx1, hx2, hx3, hx4, hx5, (T 0 (by omega)).2, (T 1 (by omega)).2, (T 2 (by omega)).2, (T 3 (by omega)).2, (T 4 (by omega)).2, (T 5 (by omega)).2⟩
theorem Kr.put6 {w0 W : World} {g o : Nat} (h : Kr w0 g o 6 W) (v0 v1 v2 v3 v4 v5 : Value) : Kr w0 g o 6 ((((((W.setCell ⟨g, o, none⟩ v0).setCell ⟨g, o + 1, none⟩ v1).setCell ⟨g, o + 2, none⟩ v2).setCell ⟨g, o + 3, none⟩ v3).setCell ⟨g, o + 4, none⟩ v4).setCell ⟨g, o + 5, none⟩ v5) := h.put [v0, v1, v2, v3, v4, v5]
theorem chain6 (W : World) (g o : Nat) (v0 v1 v2 v3 v4 v5 : Value) : ((((((W.setCell ⟨g, o, none⟩ v0).setCell ⟨g, o + 1, none⟩ v1).setCell ⟨g, o + 2, none⟩ v2).setCell ⟨g, o + 3, none⟩ v3).setCell ⟨g, o + 4, none⟩ v4).setCell ⟨g, o + 5, none⟩ v5) = W.setCells g o [v0, v1, v2, v3, v4, v5] := rfl
theorem undrew {W w1 : World} (h : Below W.drew.heap.size W.drew w1) : Below W.heap.size W w1 := ⟨h.os, h.tape, h.output, h.size, h.block⟩
theorem made_size (z : Array Value) (m : Nat) : (madeCells z m).size = m := by simp [madeCells]
/-- A block of n rows of K cells: the first k rows are F 0, F 1, .., the others are Z. -/
structure Fz (w : World) (g : Nat) (t : TypeId) (K n k : Nat) (F : Nat → List Value) (Z : List Value) (cs : Array Value) : Prop where
  own : Own w g t cs
  size : cs.size = n * K
  done : ∀ i, i < k → ∀ q, q < K → cs[i * K + q]? = (F i)[q]?
  rest : ∀ i, k ≤ i → i < n → ∀ q, q < K → cs[i * K + q]? = Z[q]?
theorem Fz.made {w : World} {t : TypeId} {K n : Nat} {F : Nat → List Value} {z : Array Value} {g : Nat} (o : Own w g t (madeCells z (n * K))) (hz : z.size = K) : Fz w g t K n 0 F z.toList (madeCells z (n * K)) := by
  refine ⟨o, made_size _ _, fun i hi => absurd hi (by omega), fun i _ hi q hq => ?_⟩
  have hle := Nat.mul_le_mul_right K (show i + 1 ≤ n from hi)
  rw [Nat.add_mul, Nat.one_mul] at hle
  have hm := made_at z (n * K) (i * K + q) (by omega)
  have e : (i * K + q) % z.size = q := by rw [hz, Nat.mul_comm, Nat.mul_add_mod, Nat.mod_eq_of_lt hq]
  rw [hm, e, getElem!_pos z q (by omega), Array.getElem?_toList, Array.getElem?_eq_getElem (by omega)]
theorem Fz.keep {w w' : World} {g : Nat} {t : TypeId} {K n k : Nat} {F : Nat → List Value} {Z : List Value} {cs : Array Value} (h : Fz w g t K n k F Z cs) (o : Own w' g t cs) : Fz w' g t K n k F Z cs := ⟨o, h.size, h.done, h.rest⟩
/-- row k is done: only its cells have turned -/
theorem Fz.step {w w' : World} {g : Nat} {t : TypeId} {K n k : Nat} {F : Nat → List Value} {Z : List Value} {cs cs' : Array Value} (h : Fz w g t K n k F Z cs) (o : Own w' g t cs') (hs : cs'.size = cs.size)
    (ho : ∀ l, (l < k * K ∨ k * K + K ≤ l) → cs'[l]? = cs[l]?) (hr : ∀ q, q < K → cs'[k * K + q]? = (F k)[q]?) : Fz w' g t K n (k + 1) F Z cs' := by
  refine ⟨o, hs.trans h.size, fun i hi q hq => ?_, fun i hi hn q hq => ?_⟩
  · rcases Nat.lt_or_ge i k with h1 | h1
    · have hle := Nat.mul_le_mul_right K (show i + 1 ≤ k from h1)
      rw [Nat.add_mul, Nat.one_mul] at hle
      rw [ho _ (.inl (by omega))]
      exact h.done i h1 q hq
    · obtain rfl : i = k := by omega
      exact hr q hq
  · have hle := Nat.mul_le_mul_right K (show k + 1 ≤ i from hi)
    rw [Nat.add_mul, Nat.one_mul] at hle
    rw [ho _ (.inr (by omega))]
    exact h.rest i (by omega) hn q hq
theorem Fz.congr {w : World} {g : Nat} {t : TypeId} {K n k : Nat} {F F' : Nat → List Value} {Z : List Value} {cs : Array Value} (h : Fz w g t K n k F Z cs) (e : ∀ i, i < k → F i = F' i) : Fz w g t K n k F' Z cs := ⟨h.own, h.size, fun i hi q hq => by rw [← e i hi]; exact h.done i hi q hq, h.rest⟩
theorem Fz.rd {w : World} {g : Nat} {t : TypeId} {K n : Nat} {F : Nat → List Value} {Z : List Value} {cs : Array Value} (hK : 0 < K) (hF : ∀ i, i < n → (F i).length = K) (h : Fz w g t K n n F Z cs) : Rd w w.heap.size K (some ⟨g, 0, none⟩) n (rowF K F) :=
  Filled.rd hK hF ⟨cs, h.own, h.size, h.done⟩
end Go.Proofs.Ytmjfdhgfpgeboac.Fil
