/-
  The entries that ShuffleByCharFreq sorts: three cells each. Proved: contracts of Len, Less and Swap. No condition beyond indexes in range.
-/
import Derived.Test.YtfmeiljapojoiaaRows
import Derived.Test.YtfmeiljapojoiaaMem
import Derived.Test.YtfmeiljapojoiaaRow
import Derived.WalkKit
import Derived.WalkSpells
import Derived.Handy
import Derived.Lib.Hide
import Derived.RegionTactic
import Derived.BigRegion
import Derived.BigQuiet
import Derived.Sort.AssemblyPlain
namespace Go.Proofs.Ytfmeiljapojoiaa.Sa
open Go.RowKit Mem Rws
set_option linter.unusedVariables false
set_option linter.unusedSimpArgs false
structure El where
  ch : ByteArray
  ct : Int
  ix : Int
instance : Inhabited El := ⟨⟨⟨#[]⟩, 0, 0⟩⟩
/-- The cells of the row d. -/
def Fe (d : Array El) (l : Nat) : Value := match l % 3 with
  | 0 => .string (d[l / 3]!).ch
  | 1 => .int .i32 (d[l / 3]!).ct
  | _ => .int .u8 (d[l / 3]!).ix
theorem Fe0 (d : Array El) (i : Nat) : Fe d (i * 3) = .string (d[i]!).ch := by
  have h := divm (m := 3) (q := i) (r := 0) (by decide)
  rw [Nat.add_zero] at h
  unfold Fe; rw [h.1, h.2]; rfl
theorem Fe1 (d : Array El) (i : Nat) : Fe d (i * 3 + 1) = .int .i32 (d[i]!).ct := by
  have h := divm (m := 3) (q := i) (r := 1) (by decide)
  unfold Fe; rw [h.1, h.2]; rfl
theorem Fe2 (d : Array El) (i : Nat) : Fe d (i * 3 + 2) = .int .u8 (d[i]!).ix := by
  have h := divm (m := 3) (q := i) (r := 2) (by decide)
  unfold Fe; rw [h.1, h.2]; rfl
theorem Fe_at (d : Array El) (i r : Nat) (hr : r < 3) : Fe d (i * 3 + r) = [Value.string (d[i]!).ch, .int .i32 (d[i]!).ct, .int .u8 (d[i]!).ix].getD r undef := by
  match r, hr with
  | 0, _ => exact Fe0 d i
  | 1, _ => exact Fe1 d i
  | 2, _ => exact Fe2 d i
/-- The block g holds the row d, 64 entries. -/
structure Rw (g : Nat) (d : Array El) (W : World) : Prop where
  cells : Cells W g 34 192 (Fe d)
  sz : d.size = 64
/-- All but the block g as it was. -/
structure Fr (g : Nat) (w w' : World) : Prop where
  os : w'.os = w.os
  tape : w'.tape = w.tape
  output : w'.output = w.output
  size : w.heap.size ≤ w'.heap.size
  block : ∀ b, b < w.heap.size → b ≠ g → w'.heap[b]? = w.heap[b]?
theorem Fr.refl (g : Nat) (w : World) : Fr g w w := ⟨rfl, rfl, rfl, Nat.le_refl _, fun _ _ _ => rfl⟩
theorem Fr.trans {g : Nat} {w w1 w2 : World} (h : Fr g w w1) (k : Fr g w1 w2) : Fr g w w2 :=
  ⟨k.os.trans h.os, k.tape.trans h.tape, k.output.trans h.output, Nat.le_trans h.size k.size, fun b hb hg => (k.block b (Nat.lt_of_lt_of_le hb h.size) hg).trans (h.block b hb hg)⟩
theorem Fr.of {g : Nat} {w w' : World} (hb : Below w.heap.size w w') : Fr g w w' := ⟨hb.os, hb.tape, hb.output, hb.size, fun b h _ => hb.block b h⟩
theorem Fr.bel {g : Nat} {w w1 w2 : World} (h : Fr g w w1) (hb : Below w1.heap.size w1 w2) : Fr g w w2 := h.trans (Fr.of hb)
theorem Rw.lt {g : Nat} {d : Array El} {W : World} (h : Rw g d W) : g < W.heap.size := h.cells.lt
theorem Rw.below {g : Nat} {d : Array El} {W W' : World} (h : Rw g d W) (hb : Below W.heap.size W W') : Rw g d W' := ⟨h.cells.below hb h.lt, h.sz⟩
theorem Rw.drewN {g : Nat} {d : Array El} {W : World} (h : Rw g d W) (n : Nat) : Rw g d (W.drewN n) := ⟨h.cells.drewN n, h.sz⟩
theorem Rw.alloc {g : Nat} {d : Array El} {W : World} (h : Rw g d W) (o : Obj) : Rw g d (W.alloc o) := ⟨h.cells.alloc o, h.sz⟩
theorem get_swp (d : Array El) (i j q : Nat) (hi : i < d.size) (hj : j < d.size) : (Sort.swp d i j)[q]! = if q = i then d[j]! else if q = j then d[i]! else d[q]! := by
  unfold Sort.swp
  by_cases hq : q < d.size
  · rw [getElem!_pos _ q (by simpa using hq), Array.getElem_setIfInBounds (by simpa using hq)]
    by_cases h2 : j = q
    · subst h2
      rw [if_pos rfl]
      by_cases h1 : j = i
      · subst h1; rw [if_pos rfl]
      · rw [if_neg h1, if_pos rfl]
    · rw [if_neg h2, Array.getElem_setIfInBounds (by simpa using hq)]
      by_cases h1 : i = q
      · subst h1; rw [if_pos rfl, if_pos rfl]
      · rw [if_neg h1, if_neg (fun e => h1 e.symm), if_neg (fun e => h2 e.symm), getElem!_pos d q hq]
  · rw [getElem!_neg _ q (by simpa using hq), if_neg (by omega), if_neg (by omega), getElem!_neg d q hq]
theorem Fe_swp (d : Array El) (i j l : Nat) (hi : i < d.size) (hj : j < d.size) : Rws.swp 3 i j (Fe d) l = Fe (Sort.swp d i j) l := by
  obtain ⟨q, r, hr, rfl⟩ : ∃ q r, r < 3 ∧ l = q * 3 + r := ⟨l / 3, l % 3, Nat.mod_lt _ (by decide), by rw [Nat.mul_comm]; exact (Nat.div_add_mod l 3).symm⟩
  rw [swp_at hr, Fe_at _ q r hr, Fe_at _ j r hr, Fe_at _ i r hr, Fe_at _ q r hr, get_swp d i j q hi hj]
  by_cases h1 : q = i
  · rw [if_pos h1, if_pos h1]
  · rw [if_neg h1, if_neg h1]
    by_cases h2 : q = j
    · rw [if_pos h2, if_pos h2]
    · rw [if_neg h2, if_neg h2]
/-- The order. -/
def lt (x y : El) : Bool := decide (y.ct < x.ct) || (x.ct == y.ct && decide (x.ix < y.ix))
theorem swo : Sort.SWO lt where
  irrefl := fun x => by unfold lt; simp
  trans := fun x y z h1 h2 => by
    unfold lt at *
    simp at *
    omega
  ntrans := fun x y z h1 h2 => by
    unfold lt at *
    simp at *
    omega
abbrev SV (g : Nat) : Value := .slice (some ⟨g, 0, none⟩) 64 64
abbrev IV (g : Nat) : Value := .iface 32 (SV g)
theorem len46 (g : Nat) (w : World) : Calls Try.prog 46 #[SV g] w fun e w' => e = .returned (.int .i64 64) ∧ w = w' := by
  go_enter Try.func46, Try.ntmps46
  go_wp2
  go_ret
  exact ⟨rfl, rfl⟩
def Giv (v : Value) (w : World) (e : Ending) (w' : World) : Prop := e = .returned v ∧ Below w.heap.size w w'
set_option maxHeartbeats 4000000 in
theorem less47 (g i j : Nat) (d : Array El) (w : World) (h : Rw g d w) (hi : i < 64) (hj : j < 64) :
    Calls Try.prog 47 #[SV g, .int .i64 i, .int .i64 j] w (Giv (.bool (lt d[i]! d[j]!)) w) := by
  have a0 := (h.cells.cell (l := i * 3) (by omega)).trans (congrArg some (Fe0 d i))
  have a1 := (h.cells.cell (l := i * 3 + 1) (by omega)).trans (congrArg some (Fe1 d i))
  have a2 := (h.cells.cell (l := i * 3 + 2) (by omega)).trans (congrArg some (Fe2 d i))
  have H := Lib.hid h
  have HLT := Lib.hid (show lt d[i]! d[j]! = (decide (d[j]!.ct < d[i]!.ct) || (d[i]!.ct == d[j]!.ct && decide (d[i]!.ix < d[j]!.ix))) from rfl)
  have b0 : ∀ o, (w.alloc o).cell? ⟨g, j * 3, none⟩ = some (.string (d[j]!).ch) := fun o => ((h.alloc o).cells.cell (l := j * 3) (by omega)).trans (congrArg some (Fe0 d j))
  have b1 : ∀ o, (w.alloc o).cell? ⟨g, j * 3 + 1, none⟩ = some (.int .i32 (d[j]!).ct) := fun o => ((h.alloc o).cells.cell (l := j * 3 + 1) (by omega)).trans (congrArg some (Fe1 d j))
  have b2 : ∀ o, (w.alloc o).cell? ⟨g, j * 3 + 2, none⟩ = some (.int .u8 (d[j]!).ix) := fun o => ((h.alloc o).cells.cell (l := j * 3 + 2) (by omega)).trans (congrArg some (Fe2 d j))
  have hi0 : (0 : Int) ≤ (i : Int) := by omega
  have hi1 : (i : Int) < 64 := by omega
  have hj0 : (0 : Int) ≤ (j : Int) := by omega
  have hj1 : (j : Int) < 64 := by omega
  clear h
  generalize lt d[i]! d[j]! = L at *
  generalize d[i]! = x at *
  generalize d[j]! = y at *
  obtain ⟨xc, xt, xi⟩ := x
  obtain ⟨yc, yt, yi⟩ := y
  dsimp only at *
  go_enter Try.func47, Try.ntmps47
  cases t1 : decide (yt < xt)
  · cases t2 : (xt == yt)
    · have hL : L = false := by rw [HLT.out, t1, t2]; rfl
      subst hL
      clear HLT
      go_wp2_with fail
      go_ret
      exact ⟨rfl, by go_grown⟩
    · cases t3 : decide (xi < yi)
      · have hL : L = false := by rw [HLT.out, t1, t2, t3]; rfl
        subst hL
        clear HLT
        go_wp2_with fail
        go_ret
        exact ⟨rfl, by go_grown⟩
      · have hL : L = true := by rw [HLT.out, t1, t2, t3]; rfl
        subst hL
        clear HLT
        go_wp2_with fail
        go_ret
        exact ⟨rfl, by go_grown⟩
  · have hL : L = true := by rw [HLT.out, t1]; rfl
    subst hL
    clear HLT
    go_wp2_with fail
    go_ret
    exact ⟨rfl, by go_grown⟩
theorem chain3 (W : World) (g o : Nat) (v0 v1 v2 : Value) : ((W.setCell ⟨g, o, none⟩ v0).setCell ⟨g, o + 1, none⟩ v1).setCell ⟨g, o + 2, none⟩ v2 = W.setCells g o [v0, v1, v2] := rfl
theorem three {W : World} {g o : Nat} (h : W.there g o 3) : ∃ x0 x1 x2, W.cell? ⟨g, o, none⟩ = some x0 ∧ W.cell? ⟨g, o + 1, none⟩ = some x1 ∧ W.cell? ⟨g, o + 2, none⟩ = some x2 := by
  obtain ⟨x0, h0⟩ := Option.isSome_iff_exists.1 (h 0 (by omega)).1
  obtain ⟨x1, h1⟩ := Option.isSome_iff_exists.1 (h 1 (by omega)).1
  obtain ⟨x2, h2⟩ := Option.isSome_iff_exists.1 (h 2 (by omega)).1
  exact ⟨x0, x1, x2, h0, h1, h2⟩
abbrev row3 (d : Array El) (i : Nat) : List Value := [.string (d[i]!).ch, .int .i32 (d[i]!).ct, .int .u8 (d[i]!).ix]
set_option maxHeartbeats 4000000 in
theorem swap48 (g i j : Nat) (d : Array El) (w : World) (h : Rw g d w) (hi : i < 64) (hj : j < 64) :
    Calls Try.prog 48 #[SV g, .int .i64 i, .int .i64 j] w fun e w' => e = .returned (.tuple #[]) ∧ Sw 3 g i j (row3 d i) (row3 d j) w w' := by
  have hc := h.cells
  have a0 := (hc.cell (l := i * 3) (by omega)).trans (congrArg some (Fe0 d i))
  have a1 := (hc.cell (l := i * 3 + 1) (by omega)).trans (congrArg some (Fe1 d i))
  have a2 := (hc.cell (l := i * 3 + 2) (by omega)).trans (congrArg some (Fe2 d i))
  have b0 := (hc.cell (l := j * 3) (by omega)).trans (congrArg some (Fe0 d j))
  have b1 := (hc.cell (l := j * 3 + 1) (by omega)).trans (congrArg some (Fe1 d j))
  have b2 := (hc.cell (l := j * 3 + 2) (by omega)).trans (congrArg some (Fe2 d j))
  have f0 := hc.frozen (i * 3)
  have f1 := hc.frozen (i * 3 + 1)
  have f2 := hc.frozen (i * 3 + 2)
  have g0 := hc.frozen (j * 3)
  have g1 := hc.frozen (j * 3 + 1)
  have g2 := hc.frozen (j * 3 + 2)
  obtain ⟨x0, x1, x2, p0, p1, p2⟩ := three (World.there_setCells (hc.there (j * 3) 3 (by omega)) g (i * 3) (row3 d j))
  obtain ⟨y0, y1, y2, q0, q1, q2⟩ := three (World.there_setCells (hc.there (i * 3) 3 (by omega)) g (j * 3) (row3 d i))
  simp only [row3] at *
  rw [← chain3] at p0 p1 p2 q0 q1 q2
  have hi0 : (0 : Int) ≤ (i : Int) := by omega
  have hi1 : (i : Int) < 64 := by omega
  have hj0 : (0 : Int) ≤ (j : Int) := by omega
  have hj1 : (j : Int) < 64 := by omega
  clear hc h
  go_enter Try.func48, Try.ntmps48
  go_region
  go_end0
  exact ⟨rfl, .inl rfl⟩
theorem row3_at (d : Array El) (i r : Nat) (hr : r < 3) : (row3 d i).getD r undef = Fe d (i * 3 + r) := (Fe_at d i r hr).symm
theorem Sw.fr {m g i j : Nat} {xi xj : List Value} {w w' : World} (h : Sw m g i j xi xj w w') : Fr g w w' := by
  have key : ∀ (vs : List Value) (o : Nat) (W : World), Fr g w W → Fr g w (W.setCells g o vs) := by
    intro vs
    induction vs with
    | nil => intro o W hW; exact hW
    | cons v r ih =>
      intro o W hW
      rw [World.setCells]
      exact ih _ _ ⟨hW.os, hW.tape, hW.output, by rw [World.size_setCell]; exact hW.size, fun b hb hne => (Below.heap_setCell W ⟨g, o, none⟩ v b hne).trans (hW.block b hb hne)⟩
  have dr : ∀ W, Fr g w W → Fr g w W.drew := fun W hW => ⟨hW.os, hW.tape, hW.output, hW.size, hW.block⟩
  rcases h with rfl | rfl
  · exact dr _ (key _ _ _ (key _ _ _ (Fr.refl g w)))
  · exact dr _ (key _ _ _ (key _ _ _ (Fr.refl g w)))
/-- The row is d', all else as it was. -/
def To (g : Nat) (d' : Array El) (w : World) (e : Ending) (w' : World) : Prop := e = .returned (.tuple #[]) ∧ Rw g d' w' ∧ Fr g w w'
theorem swapT (g i j : Nat) (d : Array El) (w : World) (h : Rw g d w) (hi : i < 64) (hj : j < 64) :
    Calls Try.prog 48 #[SV g, .int .i64 i, .int .i64 j] w (To g (Sort.swp d i j) w) := by
  refine (swap48 g i j d w h hi hj).mono ?_
  rintro e w' ⟨rfl, hs⟩
  have hz := h.sz
  refine ⟨rfl, ⟨?_, by rw [Sort.size_swp]; exact hz⟩, Sw.fr hs⟩
  exact (hs.own h.cells rfl rfl (row3_at d i) (row3_at d j) (by decide)).congr fun l _ => Fe_swp d i j l (by omega) (by omega)
end Go.Proofs.Ytfmeiljapojoiaa.Sa
