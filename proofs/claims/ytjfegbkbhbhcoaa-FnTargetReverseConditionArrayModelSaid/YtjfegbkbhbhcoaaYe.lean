/-
  Rows of the entries and of the items that the law on reverse resolution makes; what a region that makes one entry keeps. Conditions: sizes alone.
-/
import Derived.Test.YtjfegbkbhbhcoaaYd
import Derived.Test.YtjfegbkbhbhcoaaQt
namespace Go.Proofs.Ytjfegbkbhbhcoaa.Ye
open Go.RowKit Go.PlainAid Str Mem Rws Ex Go.Maps Ya Yb Yc Yd Qts
open Go.WideMaps
set_option linter.unusedVariables false
abbrev zc41 : Array Value := #[.string ⟨#[]⟩, .string ⟨#[]⟩, .slice none 0 0, .slice none 0 0, .slice none 0 0, .int .i32 0, .int .i32 0, .int .u8 0, .int .i32 0, .int .i32 0]
abbrev zc36 : Array Value := #[.string ⟨#[]⟩, .slice none 0 0, .slice none 0 0, .slice none 0 0, .int .i32 0, .int .i32 0, .int .u8 0]
theorem info41 : (Try.prog.info? 41).map (fun i => (i.zero, i.size, i.bytes)) = some (some (.agg zc41), 10, 128) := by kernel_rfl
theorem info36 : (Try.prog.info? 36).map (fun i => (i.zero, i.size, i.bytes)) = some (some (.agg zc36), 7, 104) := by kernel_rfl
/-- A block for m entries, of which j are made. -/
def Ens (w : World) (g m j : Nat) (K V : Nat → ByteArray) (T : Nat → Int) : Prop := ∃ F, Cells w g 41 (m * 10) F ∧ ∀ i, i < j → ∀ r, r < 10 → F (i * 10 + r) = (entL (K i) (V i) (T i)).getD r undef
theorem Ens.new (w : World) (m : Nat) (K V : Nat → ByteArray) (T : Nat → Int) : Ens (w.alloc (.cells (madeCells zc41 (m * 10)) 41)) w.heap.size m 0 K V T :=
  ⟨fun l => zc41[l % zc41.size]!, ⟨_, Own.new _ _ _, size_madeCells _ _, fun l hl => made_at _ _ _ hl⟩, fun i hi => by omega⟩
theorem Ens.below {w w' : World} {g m j B : Nat} {K V : Nat → ByteArray} {T : Nat → Int} (h : Ens w g m j K V T) (hb : Below B w w') (hg : g < B) : Ens w' g m j K V T := by
  obtain ⟨F, hc, hr⟩ := h
  exact ⟨F, hc.below hb hg, hr⟩
theorem Ens.drew {w : World} {g m j : Nat} {K V : Nat → ByteArray} {T : Nat → Int} (h : Ens w g m j K V T) : Ens w.drew g m j K V T := h
theorem Ens.lt {w : World} {g m j : Nat} {K V : Nat → ByteArray} {T : Nat → Int} (h : Ens w g m j K V T) : g < w.heap.size := by
  obtain ⟨F, hc, hr⟩ := h
  exact hc.lt
theorem Ens.there {w : World} {g m j : Nat} {K V : Nat → ByteArray} {T : Nat → Int} (h : Ens w g m j K V T) (hj : j < m) : w.there g (j * 10) 10 := by
  obtain ⟨F, hc, hr⟩ := h
  exact hc.there _ _ (by omega)
theorem Ens.store {w : World} {g m j : Nat} {K V : Nat → ByteArray} {T : Nat → Int} (h : Ens w g m j K V T) : Ens (w.setCells g (j * 10) (entL (K j) (V j) (T j))) g m (j + 1) K V T := by
  obtain ⟨F, hc, hr⟩ := h
  refine ⟨_, hc.set (j * 10) _, fun i hi r hr' => ?_⟩
  rw [over_at (m := 10) rfl hr']
  by_cases e : i = j
  · rw [if_pos e, e]
  · rw [if_neg e]; exact hr i (by omega) r hr'
theorem Ens.ent {w : World} {g m : Nat} {K V : Nat → ByteArray} {T : Nat → Int} (h : Ens w g m m K V T) : Ent w g 0 m K V T := by
  obtain ⟨F, hc, hr⟩ := h
  intro j hj r hr'
  rw [Nat.zero_add, hc.cell (by omega), hr j hj r hr']
/-- A block for n items, of which k are made. -/
def Its (w : World) (g n k : Nat) (L : Nat → Nat) (K V : Nat → Nat → ByteArray) (T : Nat → Nat → Int) : Prop := ∃ (F : Nat → Value) (h : Nat → Nat), Cells w g 36 (n * 7) F ∧ ∀ i, i < k → (∀ r, r < 7 → F (i * 7 + r) = (itemL (h i) (L i)).getD r undef) ∧ h i ≠ g ∧ Ent w (h i) 0 (L i) (K i) (V i) (T i)
theorem Its.new (w : World) (n : Nat) (L : Nat → Nat) (K V : Nat → Nat → ByteArray) (T : Nat → Nat → Int) : Its (w.alloc (.cells (madeCells zc36 (n * 7)) 36)) w.heap.size n 0 L K V T :=
  ⟨fun l => zc36[l % zc36.size]!, fun _ => 0, ⟨_, Own.new _ _ _, size_madeCells _ _, fun l hl => made_at _ _ _ hl⟩, fun i hi => by omega⟩
theorem Its.below {w w' : World} {g n k : Nat} {L : Nat → Nat} {K V : Nat → Nat → ByteArray} {T : Nat → Nat → Int} (h : Its w g n k L K V T) (hb : Below w.heap.size w w') : Its w' g n k L K V T := by
  obtain ⟨F, h, hc, hr⟩ := h
  exact ⟨F, h, hc.below hb hc.lt, fun i hi => ⟨(hr i hi).1, (hr i hi).2.1, (hr i hi).2.2.below hb⟩⟩
theorem Its.lt {w : World} {g n k : Nat} {L : Nat → Nat} {K V : Nat → Nat → ByteArray} {T : Nat → Nat → Int} (h : Its w g n k L K V T) : g < w.heap.size := by
  obtain ⟨F, h, hc, hr⟩ := h
  exact hc.lt
theorem Its.there {w : World} {g n k : Nat} {L : Nat → Nat} {K V : Nat → Nat → ByteArray} {T : Nat → Nat → Int} (h : Its w g n k L K V T) (hk : k < n) : w.there g (k * 7) 7 := by
  obtain ⟨F, h, hc, hr⟩ := h
  exact hc.there _ _ (by omega)
theorem Its.store {w : World} {g n k g' : Nat} {L : Nat → Nat} {K V : Nat → Nat → ByteArray} {T : Nat → Nat → Int} (h : Its w g n k L K V T) (hg : g' ≠ g) (he : Ent w g' 0 (L k) (K k) (V k) (T k)) : Its (w.setCells g (k * 7) (itemL g' (L k))) g n (k + 1) L K V T := by
  obtain ⟨F, h, hc, hr⟩ := h
  have hk : ∀ b, b ≠ g → ∀ o, (w.setCells g (k * 7) (itemL g' (L k))).cell? ⟨b, o, none⟩ = w.cell? ⟨b, o, none⟩ := fun b hb o => World.cell?_setCells_out _ _ _ _ _ (fun e _ => absurd e hb)
  refine ⟨_, fun i => if i = k then g' else h i, hc.set (k * 7) _, fun i hi => ?_⟩
  by_cases e : i = k
  · subst e
    simp only [↓reduceIte]
    exact ⟨fun r hr' => by rw [over_at (m := 7) rfl hr', if_pos rfl], hg, he.keep (hk _ hg)⟩
  · simp only [if_neg e]
    obtain ⟨h1, h2, h3⟩ := hr i (by omega)
    exact ⟨fun r hr' => by rw [over_at (m := 7) rfl hr', if_neg e]; exact h1 r hr', h2, h3.keep (hk _ h2)⟩
theorem Its.arr {w : World} {g n : Nat} {L : Nat → Nat} {K V : Nat → Nat → ByteArray} {T : Nat → Nat → Int} (h : Its w g n n L K V T) : ∃ h, Arr w g 0 n h L K V T := by
  obtain ⟨F, h, hc, hr⟩ := h
  refine ⟨h, fun i hi => ⟨fun r hr' => ?_, (hr i hi).2.2⟩⟩
  rw [Nat.zero_add, hc.cell (by omega), (hr i hi).1 r hr']
/-! What a region with four loads, two calls that make memory and the store of one entry keeps. -/
theorem keep4B {wr W W1 : World} {p1 p2 p3 p4 : Addr} {u1 u2 u3 u4 : Value} {g o n : Nat} (h1 : p1.block < wr.heap.size) (h2 : p2.block < wr.heap.size) (h3 : p3.block < wr.heap.size) (h4 : p4.block < wr.heap.size) (hg : g < wr.heap.size) (hb : Below W.heap.size W W1)
    (h : W.cell? p1 = some u1 ∧ W.cell? p2 = some u2 ∧ W.cell? p3 = some u3 ∧ W.cell? p4 = some u4 ∧ W.there g o n ∧ wr.heap.size ≤ W.heap.size) : W1.cell? p1 = some u1 ∧ W1.cell? p2 = some u2 ∧ W1.cell? p3 = some u3 ∧ W1.cell? p4 = some u4 ∧ W1.there g o n ∧ wr.heap.size ≤ W1.heap.size := by
  obtain ⟨a, b, c, d, e, f⟩ := h
  have := hb.size
  exact ⟨(hb.cell (by omega)).trans a, (hb.cell (by omega)).trans b, (hb.cell (by omega)).trans c, (hb.cell (by omega)).trans d, there_below e (by omega) hb, by omega⟩
theorem keep4C {wr W : World} {p1 p2 p3 p4 : Addr} {u1 u2 u3 u4 : Value} {g o n : Nat} (vs : List Value) (o' : Nat) (h1 : p1.block ≠ g) (h2 : p2.block ≠ g) (h3 : p3.block ≠ g) (h4 : p4.block ≠ g)
    (h : W.cell? p1 = some u1 ∧ W.cell? p2 = some u2 ∧ W.cell? p3 = some u3 ∧ W.cell? p4 = some u4 ∧ W.there g o n ∧ wr.heap.size ≤ W.heap.size) : (W.setCells g o' vs).cell? p1 = some u1 ∧ (W.setCells g o' vs).cell? p2 = some u2 ∧ (W.setCells g o' vs).cell? p3 = some u3 ∧ (W.setCells g o' vs).cell? p4 = some u4 ∧ (W.setCells g o' vs).there g o n ∧ wr.heap.size ≤ (W.setCells g o' vs).heap.size := by
  obtain ⟨a, b, c, d, e, f⟩ := h
  exact ⟨(World.cell?_setCells_out _ _ _ _ _ (fun h _ => absurd h h1)).trans a, (World.cell?_setCells_out _ _ _ _ _ (fun h _ => absurd h h2)).trans b, (World.cell?_setCells_out _ _ _ _ _ (fun h _ => absurd h h3)).trans c, (World.cell?_setCells_out _ _ _ _ _ (fun h _ => absurd h h4)).trans d, World.there_setCells e _ _ _, by rw [size_setCells]; exact f⟩
theorem chain10 (W : World) (g o : Nat) (v0 v1 v2 v3 v4 v5 v6 v7 v8 v9 : Value) : ((((((((((W.setCell ⟨g, o, none⟩ v0).setCell ⟨g, o + 1, none⟩ v1).setCell ⟨g, o + 2, none⟩ v2).setCell ⟨g, o + 3, none⟩ v3).setCell ⟨g, o + 4, none⟩ v4).setCell ⟨g, o + 5, none⟩ v5).setCell ⟨g, o + 6, none⟩ v6).setCell ⟨g, o + 7, none⟩ v7).setCell ⟨g, o + 8, none⟩ v8).setCell ⟨g, o + 9, none⟩ v9) = W.setCells g o [v0, v1, v2, v3, v4, v5, v6, v7, v8, v9] := rfl
theorem chain7 (W : World) (g o : Nat) (v0 v1 v2 v3 v4 v5 v6 : Value) : (((((((W.setCell ⟨g, o, none⟩ v0).setCell ⟨g, o + 1, none⟩ v1).setCell ⟨g, o + 2, none⟩ v2).setCell ⟨g, o + 3, none⟩ v3).setCell ⟨g, o + 4, none⟩ v4).setCell ⟨g, o + 5, none⟩ v5).setCell ⟨g, o + 6, none⟩ v6) = W.setCells g o [v0, v1, v2, v3, v4, v5, v6] := rfl
theorem keep4C10 {wr W : World} {p1 p2 p3 p4 : Addr} {u1 u2 u3 u4 : Value} {g o' o n : Nat} {v0 v1 v2 v3 v4 v5 v6 v7 v8 v9 : Value} (h1 : p1.block ≠ g) (h2 : p2.block ≠ g) (h3 : p3.block ≠ g) (h4 : p4.block ≠ g)
    (h : W.cell? p1 = some u1 ∧ W.cell? p2 = some u2 ∧ W.cell? p3 = some u3 ∧ W.cell? p4 = some u4 ∧ W.there g o' n ∧ wr.heap.size ≤ W.heap.size) : ((((((((((W.setCell ⟨g, o, none⟩ v0).setCell ⟨g, o + 1, none⟩ v1).setCell ⟨g, o + 2, none⟩ v2).setCell ⟨g, o + 3, none⟩ v3).setCell ⟨g, o + 4, none⟩ v4).setCell ⟨g, o + 5, none⟩ v5).setCell ⟨g, o + 6, none⟩ v6).setCell ⟨g, o + 7, none⟩ v7).setCell ⟨g, o + 8, none⟩ v8).setCell ⟨g, o + 9, none⟩ v9).cell? p1 = some u1 ∧ ((((((((((W.setCell ⟨g, o, none⟩ v0).setCell ⟨g, o + 1, none⟩ v1).setCell ⟨g, o + 2, none⟩ v2).setCell ⟨g, o + 3, none⟩ v3).setCell ⟨g, o + 4, none⟩ v4).setCell ⟨g, o + 5, none⟩ v5).setCell ⟨g, o + 6, none⟩ v6).setCell ⟨g, o + 7, none⟩ v7).setCell ⟨g, o + 8, none⟩ v8).setCell ⟨g, o + 9, none⟩ v9).cell? p2 = some u2 ∧ ((((((((((W.setCell ⟨g, o, none⟩ v0).setCell ⟨g, o + 1, none⟩ v1).setCell ⟨g, o + 2, none⟩ v2).setCell ⟨g, o + 3, none⟩ v3).setCell ⟨g, o + 4, none⟩ v4).setCell ⟨g, o + 5, none⟩ v5).setCell ⟨g, o + 6, none⟩ v6).setCell ⟨g, o + 7, none⟩ v7).setCell ⟨g, o + 8, none⟩ v8).setCell ⟨g, o + 9, none⟩ v9).cell? p3 = some u3 ∧ ((((((((((W.setCell ⟨g, o, none⟩ v0).setCell ⟨g, o + 1, none⟩ v1).setCell ⟨g, o + 2, none⟩ v2).setCell ⟨g, o + 3, none⟩ v3).setCell ⟨g, o + 4, none⟩ v4).setCell ⟨g, o + 5, none⟩ v5).setCell ⟨g, o + 6, none⟩ v6).setCell ⟨g, o + 7, none⟩ v7).setCell ⟨g, o + 8, none⟩ v8).setCell ⟨g, o + 9, none⟩ v9).cell? p4 = some u4 ∧ ((((((((((W.setCell ⟨g, o, none⟩ v0).setCell ⟨g, o + 1, none⟩ v1).setCell ⟨g, o + 2, none⟩ v2).setCell ⟨g, o + 3, none⟩ v3).setCell ⟨g, o + 4, none⟩ v4).setCell ⟨g, o + 5, none⟩ v5).setCell ⟨g, o + 6, none⟩ v6).setCell ⟨g, o + 7, none⟩ v7).setCell ⟨g, o + 8, none⟩ v8).setCell ⟨g, o + 9, none⟩ v9).there g o' n ∧ wr.heap.size ≤ ((((((((((W.setCell ⟨g, o, none⟩ v0).setCell ⟨g, o + 1, none⟩ v1).setCell ⟨g, o + 2, none⟩ v2).setCell ⟨g, o + 3, none⟩ v3).setCell ⟨g, o + 4, none⟩ v4).setCell ⟨g, o + 5, none⟩ v5).setCell ⟨g, o + 6, none⟩ v6).setCell ⟨g, o + 7, none⟩ v7).setCell ⟨g, o + 8, none⟩ v8).setCell ⟨g, o + 9, none⟩ v9).heap.size := by
  rw [chain10]
  exact keep4C _ _ h1 h2 h3 h4 h
theorem tenT {W : World} {g o : Nat} (T : W.there g o 10) :
    ∃ x0 x1 x2 x3 x4 x5 x6 x7 x8 x9 : Value, W.cell? ⟨g, o, none⟩ = some x0 ∧ W.cell? ⟨g, o + 1, none⟩ = some x1 ∧ W.cell? ⟨g, o + 2, none⟩ = some x2 ∧ W.cell? ⟨g, o + 3, none⟩ = some x3 ∧ W.cell? ⟨g, o + 4, none⟩ = some x4 ∧ W.cell? ⟨g, o + 5, none⟩ = some x5 ∧ W.cell? ⟨g, o + 6, none⟩ = some x6 ∧ W.cell? ⟨g, o + 7, none⟩ = some x7 ∧ W.cell? ⟨g, o + 8, none⟩ = some x8 ∧ W.cell? ⟨g, o + 9, none⟩ = some x9 ∧ W.frozen? ⟨g, o, none⟩ = false ∧ W.frozen? ⟨g, o + 1, none⟩ = false ∧ W.frozen? ⟨g, o + 2, none⟩ = false ∧ W.frozen? ⟨g, o + 3, none⟩ = false ∧ W.frozen? ⟨g, o + 4, none⟩ = false ∧ W.frozen? ⟨g, o + 5, none⟩ = false ∧ W.frozen? ⟨g, o + 6, none⟩ = false ∧ W.frozen? ⟨g, o + 7, none⟩ = false ∧ W.frozen? ⟨g, o + 8, none⟩ = false ∧ W.frozen? ⟨g, o + 9, none⟩ = false := by
  obtain ⟨x0, hx0⟩ := Option.isSome_iff_exists.1 (T 0 (by omega)).1
  obtain ⟨x1, hx1⟩ := Option.isSome_iff_exists.1 (T 1 (by omega)).1
  obtain ⟨x2, hx2⟩ := Option.isSome_iff_exists.1 (T 2 (by omega)).1
  obtain ⟨x3, hx3⟩ := Option.isSome_iff_exists.1 (T 3 (by omega)).1
  obtain ⟨x4, hx4⟩ := Option.isSome_iff_exists.1 (T 4 (by omega)).1
  obtain ⟨x5, hx5⟩ := Option.isSome_iff_exists.1 (T 5 (by omega)).1
  obtain ⟨x6, hx6⟩ := Option.isSome_iff_exists.1 (T 6 (by omega)).1
  obtain ⟨x7, hx7⟩ := Option.isSome_iff_exists.1 (T 7 (by omega)).1
  obtain ⟨x8, hx8⟩ := Option.isSome_iff_exists.1 (T 8 (by omega)).1
  obtain ⟨x9, hx9⟩ := Option.isSome_iff_exists.1 (T 9 (by omega)).1
  exact ⟨x0, x1, x2, x3, x4, x5, x6, x7, x8, x9, hx0, hx1, hx2, hx3, hx4, hx5, hx6, hx7, hx8, hx9, (T 0 (by omega)).2, (T 1 (by omega)).2, (T 2 (by omega)).2, (T 3 (by omega)).2, (T 4 (by omega)).2, (T 5 (by omega)).2, (T 6 (by omega)).2, (T 7 (by omega)).2, (T 8 (by omega)).2, (T 9 (by omega)).2⟩
theorem sevenT {W : World} {g o : Nat} (T : W.there g o 7) :
    ∃ x0 x1 x2 x3 x4 x5 x6 : Value, W.cell? ⟨g, o, none⟩ = some x0 ∧ W.cell? ⟨g, o + 1, none⟩ = some x1 ∧ W.cell? ⟨g, o + 2, none⟩ = some x2 ∧ W.cell? ⟨g, o + 3, none⟩ = some x3 ∧ W.cell? ⟨g, o + 4, none⟩ = some x4 ∧ W.cell? ⟨g, o + 5, none⟩ = some x5 ∧ W.cell? ⟨g, o + 6, none⟩ = some x6 ∧ W.frozen? ⟨g, o, none⟩ = false ∧ W.frozen? ⟨g, o + 1, none⟩ = false ∧ W.frozen? ⟨g, o + 2, none⟩ = false ∧ W.frozen? ⟨g, o + 3, none⟩ = false ∧ W.frozen? ⟨g, o + 4, none⟩ = false ∧ W.frozen? ⟨g, o + 5, none⟩ = false ∧ W.frozen? ⟨g, o + 6, none⟩ = false := by
  obtain ⟨x0, hx0⟩ := Option.isSome_iff_exists.1 (T 0 (by omega)).1
  obtain ⟨x1, hx1⟩ := Option.isSome_iff_exists.1 (T 1 (by omega)).1
  obtain ⟨x2, hx2⟩ := Option.isSome_iff_exists.1 (T 2 (by omega)).1
  obtain ⟨x3, hx3⟩ := Option.isSome_iff_exists.1 (T 3 (by omega)).1
  obtain ⟨x4, hx4⟩ := Option.isSome_iff_exists.1 (T 4 (by omega)).1
  obtain ⟨x5, hx5⟩ := Option.isSome_iff_exists.1 (T 5 (by omega)).1
  obtain ⟨x6, hx6⟩ := Option.isSome_iff_exists.1 (T 6 (by omega)).1
  exact ⟨x0, x1, x2, x3, x4, x5, x6, hx0, hx1, hx2, hx3, hx4, hx5, hx6, (T 0 (by omega)).2, (T 1 (by omega)).2, (T 2 (by omega)).2, (T 3 (by omega)).2, (T 4 (by omega)).2, (T 5 (by omega)).2, (T 6 (by omega)).2⟩
abbrev tk (k l : Nat) : Int := (k : Int) * 4096 + (l : Int) + 1
theorem Cnd.of_map {w : World} {b n : Nat} {S : Nat → ByteArray} (h : w.ownsMap Try.prog 9 (plainElem (H := Unit) Try.prog 4) b n (Dm S n)) : Cnd (.map (some b)) (inS S n) w := cnd_of h
end Go.Proofs.Ytjfegbkbhbhcoaa.Ye
