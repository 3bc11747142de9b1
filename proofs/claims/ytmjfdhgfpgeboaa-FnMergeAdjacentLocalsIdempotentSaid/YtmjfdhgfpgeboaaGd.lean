/-
  Contract: the list of statements out of kinds, exports and numbers of declarations. Conditions: sizes alone.
-/
import Derived.Test.YtmjfdhgfpgeboaaGb
import Derived.Deep.RegionHeld3
import Derived.Deep.CutRange
import Derived.Deep.QuietTactic
namespace Go.Proofs.Ytmjfdhgfpgeboaa.Gd
open Go.RowKit Go.PlainAid Mem Sz Ga Gm Gb
set_option linter.unusedVariables false

/-- two cells that may be written -/
def Two (W : World) (g o : Nat) : Prop := (∃ x0 x1, W.cell? ⟨g, o, none⟩ = some x0 ∧ W.cell? ⟨g, o + 1, none⟩ = some x1) ∧ W.frozen? ⟨g, o, none⟩ = false ∧ W.frozen? ⟨g, o + 1, none⟩ = false
theorem Two.of {w : World} {g o : Nat} {t : TypeId} {cs : Array Value} (h : Own w g t cs) (ho : o + 1 < cs.size) : Two w g o :=
  ⟨⟨_, _, (h.cell o).trans (Array.getElem?_eq_getElem (by omega)), (h.cell (o + 1)).trans (Array.getElem?_eq_getElem ho)⟩, h.frozen o, h.frozen (o + 1)⟩
theorem Own.put2 {w : World} {g o : Nat} {t : TypeId} {cs : Array Value} (h : Own w g t cs) (v0 v1 : Value) : Own ((w.setCell ⟨g, o, none⟩ v0).setCell ⟨g, o + 1, none⟩ v1) g t ((cs.setIfInBounds o v0).setIfInBounds (o + 1) v1) := (h.set o v0).set (o + 1) v1

/-- The first k statements of n stand in the row rb. -/
structure Bld (w wr : World) (rb n k : Nat) (cs : Array Value) : Prop where
  own : Own wr rb 37 cs
  size : cs.size = n * 2
  set : ∀ i, i < k → ∃ (v : Value) (C : Option (Int × Bool)) (l : Int), cs[i * 2]? = some v ∧ cs[i * 2 + 1]? = some (.int .i32 l) ∧ Ent wr (rb + 1) wr.heap.size (rb + 1) wr.heap.size 255 v C
  below : Below rb w wr

theorem Bld.step {w wr wx w' : World} {rb n k : Nat} {cs : Array Value} {v : Value} {C : Option (Int × Bool)} {l : Int} (h : Bld w wr rb n k cs) (hk : k < n) (hx : Below wr.heap.size wr wx)
    (he : Ent wx wr.heap.size wx.heap.size wr.heap.size wx.heap.size 255 v C) (hw : w' = (wx.setCell ⟨rb, k * 2, none⟩ v).setCell ⟨rb, k * 2 + 1, none⟩ (.int .i32 l)) :
    Bld w w' rb n (k + 1) ((cs.setIfInBounds (k * 2) v).setIfInBounds (k * 2 + 1) (.int .i32 l)) := by
  subst hw
  have hlt := h.own.lt
  have hsz := hx.size
  have hz : ((wx.setCell ⟨rb, k * 2, none⟩ v).setCell ⟨rb, k * 2 + 1, none⟩ (.int .i32 l)).heap.size = wx.heap.size := by simp
  have eq : Eqs (rb + 1) wx.heap.size wx ((wx.setCell ⟨rb, k * 2, none⟩ v).setCell ⟨rb, k * 2 + 1, none⟩ (.int .i32 l)) := fun b h1 h2 =>
    (Below.heap_setCell _ _ _ b (by show b ≠ rb; omega)).trans (Below.heap_setCell _ _ _ b (by show b ≠ rb; omega))
  have e0 : Eqs (rb + 1) wr.heap.size wr wx := Eqs.below hx (Nat.le_refl _)
  have hs := h.size
  refine ⟨Own.put2 (h.own.below hx hlt) _ _, by simpa using h.size, fun i hi => ?_, ?_⟩
  · rw [hz]
    by_cases e : i = k
    · subst e
      refine ⟨v, C, l, ?_, ?_, (he.widen (by omega) (Nat.le_refl _) (by omega) (Nat.le_refl _) (Nat.le_refl _)).eqs eq eq⟩
      · rw [Array.getElem?_setIfInBounds_ne (by omega), Array.getElem?_setIfInBounds_self_of_lt (by omega)]
      · rw [Array.getElem?_setIfInBounds_self_of_lt (by simp; omega)]
    · obtain ⟨v', C', l', h1, h2, h3⟩ := h.set i (by omega)
      refine ⟨v', C', l', ?_, ?_, ((h3.eqs e0 e0).widen (Nat.le_refl _) hsz (Nat.le_refl _) hsz (Nat.le_refl _)).eqs eq eq⟩
      · rw [Array.getElem?_setIfInBounds_ne (by omega), Array.getElem?_setIfInBounds_ne (by omega)]; exact h1
      · rw [Array.getElem?_setIfInBounds_ne (by omega), Array.getElem?_setIfInBounds_ne (by omega)]; exact h2
  · exact ((h.below.trans (hx.mono (by omega))).setCell (p := ⟨rb, k * 2, none⟩) (Nat.le_refl _) _).setCell (p := ⟨rb, k * 2 + 1, none⟩) (Nat.le_refl _) _

theorem keep3 {W0 W W1 : World} {p0 p1 p2 : Addr} {u0 u1 u2 : Value} {g o : Nat} (h0 : p0.block < W0.heap.size) (h1 : p1.block < W0.heap.size) (h2 : p2.block < W0.heap.size) (hg : g < W0.heap.size) (hb : Below W.heap.size W W1)
    (h : W.cell? p0 = some u0 ∧ W.cell? p1 = some u1 ∧ W.cell? p2 = some u2 ∧ Two W g o ∧ W0.heap.size ≤ W.heap.size) : W1.cell? p0 = some u0 ∧ W1.cell? p1 = some u1 ∧ W1.cell? p2 = some u2 ∧ Two W1 g o ∧ W0.heap.size ≤ W1.heap.size := by
  obtain ⟨a, b, c, ⟨⟨x0, x1, d0, d1⟩, d2, d3⟩, e⟩ := h
  have := hb.size
  refine ⟨(hb.cell (by omega)).trans a, (hb.cell (by omega)).trans b, (hb.cell (by omega)).trans c, ⟨⟨x0, x1, (hb.cell (p := ⟨g, o, none⟩) (by show g < _; omega)).trans d0, (hb.cell (p := ⟨g, o + 1, none⟩) (by show g < _; omega)).trans d1⟩, (hb.frozen (p := ⟨g, o, none⟩) (by show g < _; omega)).trans d2, (hb.frozen (p := ⟨g, o + 1, none⟩) (by show g < _; omega)).trans d3⟩, by omega⟩
theorem cell_set {W : World} {g o : Nat} {p : Addr} {u v : Value} (h : p.block ≠ g) (hu : W.cell? p = some u) : (W.setCell ⟨g, o, none⟩ v).cell? p = some u := by
  have hh : (W.setCell ⟨g, o, none⟩ v).heap[p.block]? = W.heap[p.block]? := Below.heap_setCell W ⟨g, o, none⟩ v p.block h
  exact (World.cell?_of_block hh).trans hu

theorem keep3C {W0 W : World} {p0 p1 p2 : Addr} {u0 u1 u2 v0 v1 : Value} {g o : Nat} (h0 : p0.block ≠ g) (h1 : p1.block ≠ g) (h2 : p2.block ≠ g)
    (h : W.cell? p0 = some u0 ∧ W.cell? p1 = some u1 ∧ W.cell? p2 = some u2 ∧ Two W g o ∧ W0.heap.size ≤ W.heap.size) :
    ((W.setCell ⟨g, o, none⟩ v0).setCell ⟨g, o + 1, none⟩ v1).cell? p0 = some u0 ∧ ((W.setCell ⟨g, o, none⟩ v0).setCell ⟨g, o + 1, none⟩ v1).cell? p1 = some u1 ∧ ((W.setCell ⟨g, o, none⟩ v0).setCell ⟨g, o + 1, none⟩ v1).cell? p2 = some u2 ∧
      Two ((W.setCell ⟨g, o, none⟩ v0).setCell ⟨g, o + 1, none⟩ v1) g o ∧ W0.heap.size ≤ ((W.setCell ⟨g, o, none⟩ v0).setCell ⟨g, o + 1, none⟩ v1).heap.size := by
  obtain ⟨a, b, c, ⟨⟨x0, x1, d0, d1⟩, d2, d3⟩, e⟩ := h
  have hin : ∀ j, j < [v0, v1].length → (W.cell? ⟨g, o + j, none⟩).isSome = true := fun j hj => by
    match j, hj with
    | 0, _ => simp [d0]
    | 1, _ => simp [d1]
  refine ⟨cell_set h0 (cell_set h0 a), cell_set h1 (cell_set h1 b), cell_set h2 (cell_set h2 c), ⟨⟨v0, v1, ?_, ?_⟩, ?_, ?_⟩, by simpa using e⟩
  · exact World.cell?_setCells_in g [v0, v1] o W hin 0 (by simp)
  · exact World.cell?_setCells_in g [v0, v1] o W hin 1 (by simp)
  · exact (World.frozen?_setCells g [v0, v1] o W _).trans d2
  · exact (World.frozen?_setCells g [v0, v1] o W _).trans d3

def rowZ : Array Value := #[.nilIface, .int .i32 0]
theorem info37 : (Try.prog.info? 37).map (fun i => (i.zero, i.size, i.bytes)) = some (some (.agg rowZ), 2, 24) := by kernel_rfl
def Listed (n : Nat) (w : World) (e : Ending) (w' : World) : Prop := ∃ cs, e = .returned (.slice (some ⟨w.heap.size, 0, none⟩) n n) ∧ Bld w w' w.heap.size n n cs

set_option maxRecDepth 100000 in
set_option maxHeartbeats 4000000 in
theorem build8 (A0 : Option Addr) (n c0 : Nat) (A1 : Option Addr) (c1 : Nat) (A2 : Option Addr) (c2 : Nat) (Z0 Z2 : Nat → Int) (Z1 : Nat → Bool) (w : World)
    (hA0 : Rd w w.heap.size 1 A0 n (fun j => .int .u8 (Z0 j))) (hA1 : Rd w w.heap.size 1 A1 n (fun j => .bool (Z1 j))) (hA2 : Rd w w.heap.size 1 A2 n (fun j => .int .u8 (Z2 j)))
    (hn : n ≤ 65536) (hZ : ∀ j, j < n → 0 ≤ Z2 j ∧ Z2 j ≤ 255) :
    Calls Try.prog 8 #[.slice A0 n c0, .slice A1 n c1, .slice A2 n c2] w (Listed n w) := by
  have hmk := run_mkc (P := Try.prog) 27 37 (.agg rowZ) rowZ (by rfl) _ _ Try.underlying27 info37 n n (Nat.le_refl _) (by omega) (by omega)
  have HA0 := Lib.hid hA0
  have HA1 := Lib.hid hA1
  have HA2 := Lib.hid hA2
  have HZ := Lib.hid hZ
  clear hA0 hA1 hA2 hZ
  go_enter Try.func8, Try.ntmps8
  go_wp2
  clear hmk
  go_loopw [8, 9] (fun x i wr => ∃ (k : Nat) (f : Int) (cs : Array Value), k ≤ n ∧ i = .int .i64 k ∧ x = .int .u32 f ∧ Hid (Bld w wr w.heap.size n k cs)) (fun _ i _ => n - (intOf i).toNat)
  case atStart => exact ⟨0, 0, _, by omega, rfl, rfl, Lib.hid ⟨Own.new w 37 _, by simp [size_madeCells], fun i hi => absurd hi (by omega), by go_grown⟩⟩
  case round =>
    obtain ⟨k, f, cs, hk, rfl, rfl, HB⟩ := hrel
    obtain ⟨wo, rfl⟩ : ∃ wo : World, wo = wr := ⟨_, rfl⟩
    by_cases hlt : k < n
    · obtain ⟨b0, o0, rfl, hb0, hc0⟩ := HA0.out (by omega)
      have d0 : wo.cell? ⟨b0, o0 + k, none⟩ = some (.int .u8 (Z0 k)) := (HB.out.below.cell (p := ⟨b0, o0 + k, none⟩) hb0).trans (hc0 k (by omega))
      have q0 : (0 : Int) ≤ (k : Int) := by omega
      have q1 : (k : Int) < (n : Int) := by omega
      have hlo := HB.out.own.lt
      have htw := Two.of HB.out.own (o := k * 2) (by rw [HB.out.size]; omega)
      by_cases h8 : (8 : Int) ≤ Z0 k
      · have t8 : decide ((8 : Int) ≤ Z0 k) = true := decide_eq_true h8
        clear hc0 hb0 h8
        go_wp2_with fail
        refine (expr11 _ _).mono ?_
        rintro e w1 ⟨p, rfl, hp1, hp2, ho, hw1⟩
        obtain ⟨⟨⟨x0, x1, e0, e1⟩, g0, g1⟩, hzz⟩ : Two w1 w.heap.size (k * 2) ∧ wo.heap.size ≤ w1.heap.size := by
          have := keep3 (W0 := wo) hlo hlo hlo hlo hw1 (p0 := ⟨w.heap.size, k * 2, none⟩) (p1 := ⟨w.heap.size, k * 2, none⟩) (p2 := ⟨w.heap.size, k * 2, none⟩) (u0 := _) (u1 := _) (u2 := _) ⟨htw.1.choose_spec.choose_spec.1, htw.1.choose_spec.choose_spec.1, htw.1.choose_spec.choose_spec.1, htw, Nat.le_refl _⟩
          exact this.2.2.2
        have HE : Hid (Ent w1 wo.heap.size w1.heap.size wo.heap.size w1.heap.size 255 (.iface 41 (.pointer (some ⟨p, 0, none⟩))) none) := Lib.hid (.inl ⟨rfl, p, rfl, hp1, hp2, ho⟩)
        have HW1 := Lib.hid hw1
        clear hp1 hp2 ho hw1 htw d0 t8
        go_wp2_with fail
        go_roundw
        case rel => exact ⟨k + 1, f, _, by omega, by go_num, rfl, Lib.hid (HB.out.step hlt HW1.out HE.out rfl)⟩
        case measure => simp [intOf]; omega
      · have t8 : decide ((8 : Int) ≤ Z0 k) = false := decide_eq_false h8
        obtain ⟨b1, o1, rfl, hb1, hc1⟩ := HA1.out (by omega)
        obtain ⟨b2, o2, rfl, hb2, hc2⟩ := HA2.out (by omega)
        have d1 : wo.cell? ⟨b1, o1 + k, none⟩ = some (.bool (Z1 k)) := (HB.out.below.cell (p := ⟨b1, o1 + k, none⟩) hb1).trans (hc1 k (by omega))
        obtain ⟨q, hq⟩ : ∃ q : Nat, Z2 k = (q : Int) := ⟨(Z2 k).toNat, by have := HZ.out k hlt; omega⟩
        have hq1 : q ≤ 255 := by have := HZ.out k hlt; omega
        have d2 : wo.cell? ⟨b2, o2 + k, none⟩ = some (.int .u8 (q : Int)) := by rw [← hq]; exact (HB.out.below.cell (p := ⟨b2, o2 + k, none⟩) hb2).trans (hc2 k (by omega))
        have qv : IntKind.i64.wrap (q : Int) = (q : Int) := wrapQ rfl (by omega) (by omega)
        have hB0 : b0 < wo.heap.size := by omega
        have hB1 : b1 < wo.heap.size := by omega
        have hB2 : b2 < wo.heap.size := by omega
        have hn0 : b0 ≠ w.heap.size := by omega
        have hn1 : b1 ≠ w.heap.size := by omega
        have hn2 : b2 ≠ w.heap.size := by omega
        clear hc0 hc1 hc2 hb0 hb1 hb2 h8 hq
        go_upto_region 8 with fail
        go_region_held3 (fun W => W.cell? ⟨b0, o0 + k, none⟩ = some (.int .u8 (Z0 k)) ∧ W.cell? ⟨b1, o1 + k, none⟩ = some (.bool (Z1 k)) ∧ W.cell? ⟨b2, o2 + k, none⟩ = some (.int .u8 (q : Int)) ∧ Two W w.heap.size (k * 2) ∧ wo.heap.size ≤ W.heap.size)
          (first | with_reducible exact keep3C hn0 hn1 hn2 (by assumption) | exact ⟨d0, d1, d2, htw, Nat.le_refl _⟩ | with_reducible exact keep3 hB0 hB1 hB2 hlo hw1 (by assumption))
          ((go_at_call 12; refine (local12 _ _ _ _ q hq1 _).mono ?_; rintro e w1 ⟨p, rfl, hL, hw1⟩; obtain ⟨_, _, _, ⟨⟨x0, x1, e0, e1⟩, g0, g1⟩, _⟩ := keep3 hB0 hB1 hB2 hlo hw1 (by assumption)))
        have HE : Hid (Ent w1 wo.heap.size w1.heap.size wo.heap.size w1.heap.size 255 (.iface 60 (.pointer (some ⟨p, 0, none⟩))) (some (Z0 k, Z1 k))) := Lib.hid (.inr ⟨p, _, _, rfl, rfl, LocS.widen hL (Nat.le_refl _) (Nat.le_refl _) (Nat.le_refl _) (Nat.le_refl _) hq1⟩)
        have HW1 := Lib.hid ((Below.drew (Below.refl wo.heap.size wo)).trans hw1)
        clear hL hw1 htw d0 d1 d2 t8
        go_wp2_with fail
        go_roundw
        case rel => exact ⟨k + 1, _, _, by omega, by go_num, rfl, Lib.hid (HB.out.step hlt HW1.out HE.out rfl)⟩
        case measure => simp [intOf]; omega
    · have z0 : decide (k < n) = false := decide_eq_false hlt
      obtain rfl : k = n := by omega
      go_wp2
      go_ret
      exact ⟨cs, rfl, HB.out⟩
end Go.Proofs.Ytmjfdhgfpgeboaa.Gd
