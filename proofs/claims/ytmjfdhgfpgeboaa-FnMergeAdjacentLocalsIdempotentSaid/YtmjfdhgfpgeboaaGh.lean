/-
  Contracts: a statement is the same as itself; a list is the same as its copy. Conditions: sizes alone.
-/
import Derived.Test.YtmjfdhgfpgeboaaGg
import Derived.Deep.RegionHeld3
namespace Go.Proofs.Ytmjfdhgfpgeboaa.Gh
open Go.RowKit Go.PlainAid Mem Sz Ga Gm Gg
set_option linter.unusedVariables false
set_option linter.unusedSimpArgs false

def Yes (w : World) (e : Ending) (w' : World) : Prop := e = .returned (.bool true) ∧ Below w.heap.size w w'

/-- The two boxes of a statement, in a later world. -/
structure Bx (w : World) (v : Value) (l : Int) (W : World) : Prop where
  o0 : Own W w.heap.size 37 #[v, .int .i32 l]
  o1 : Own W (w.heap.size + 1) 37 #[v, .int .i32 l]
  below : Below w.heap.size w W
theorem Bx.start (w : World) (v : Value) (l : Int) : Bx w v l ((w.alloc (.cells #[v, .int .i32 l] 37)).alloc (.cells #[v, .int .i32 l] 37)) :=
  ⟨(Own.new w 37 _).alloc _, by have := Own.new (w.alloc (.cells #[v, .int .i32 l] 37)) 37 #[v, .int .i32 l]; simpa using this, by go_grown⟩
theorem Bx.grow {w W W' : World} {v : Value} {l : Int} (h : Bx w v l W) (hb : Below W.heap.size W W') : Bx w v l W' :=
  ⟨h.o0.below hb h.o0.lt, h.o1.below hb h.o1.lt, h.below.trans (hb.mono h.below.size)⟩
theorem Bx.drewN {w W : World} {v : Value} {l : Int} (h : Bx w v l W) (n : Nat) : Bx w v l (W.drewN n) := h.grow (below_drewN (Below.refl _ _) n)
theorem Bx.r0 {w W : World} {v : Value} {l : Int} (h : Bx w v l W) : W.cell? ⟨w.heap.size, 0, none⟩ = some v := (h.o0.cell 0).trans rfl
theorem Bx.r1 {w W : World} {v : Value} {l : Int} (h : Bx w v l W) : W.cell? ⟨w.heap.size, 1, none⟩ = some (.int .i32 l) := (h.o0.cell 1).trans rfl
theorem Bx.r2 {w W : World} {v : Value} {l : Int} (h : Bx w v l W) : W.cell? ⟨w.heap.size + 1, 0, none⟩ = some v := (h.o1.cell 0).trans rfl
theorem Bx.r3 {w W : World} {v : Value} {l : Int} (h : Bx w v l W) : W.cell? ⟨w.heap.size + 1, 1, none⟩ = some (.int .i32 l) := (h.o1.cell 1).trans rfl
theorem sOf {w W : World} {v : Value} {l : Int} (h : Bx w v l W) : Bx w v l W ∧ W.cell? ⟨w.heap.size, 0, none⟩ = some v ∧ W.cell? ⟨w.heap.size, 1, none⟩ = some (.int .i32 l) ∧ W.cell? ⟨w.heap.size + 1, 0, none⟩ = some v ∧ W.cell? ⟨w.heap.size + 1, 1, none⟩ = some (.int .i32 l) := ⟨h, h.r0, h.r1, h.r2, h.r3⟩
theorem sKeep {w W W1 : World} {v : Value} {l : Int} (h : Bx w v l W ∧ W.cell? ⟨w.heap.size, 0, none⟩ = some v ∧ W.cell? ⟨w.heap.size, 1, none⟩ = some (.int .i32 l) ∧ W.cell? ⟨w.heap.size + 1, 0, none⟩ = some v ∧ W.cell? ⟨w.heap.size + 1, 1, none⟩ = some (.int .i32 l)) (hw : Below W.heap.size W W1) :
    Bx w v l W1 ∧ W1.cell? ⟨w.heap.size, 0, none⟩ = some v ∧ W1.cell? ⟨w.heap.size, 1, none⟩ = some (.int .i32 l) ∧ W1.cell? ⟨w.heap.size + 1, 0, none⟩ = some v ∧ W1.cell? ⟨w.heap.size + 1, 1, none⟩ = some (.int .i32 l) := sOf (h.1.grow hw)
theorem sLeft {w W : World} {v : Value} {l : Int} (h : Bx w v l W ∧ W.cell? ⟨w.heap.size, 0, none⟩ = some v ∧ W.cell? ⟨w.heap.size, 1, none⟩ = some (.int .i32 l) ∧ W.cell? ⟨w.heap.size + 1, 0, none⟩ = some v ∧ W.cell? ⟨w.heap.size + 1, 1, none⟩ = some (.int .i32 l)) : Bx w v l W := h.1
theorem sBelow {w W : World} {v : Value} {l : Int} (h : Bx w v l W ∧ W.cell? ⟨w.heap.size, 0, none⟩ = some v ∧ W.cell? ⟨w.heap.size, 1, none⟩ = some (.int .i32 l) ∧ W.cell? ⟨w.heap.size + 1, 0, none⟩ = some v ∧ W.cell? ⟨w.heap.size + 1, 1, none⟩ = some (.int .i32 l)) : Below w.heap.size w W := h.1.below


set_option maxRecDepth 100000 in
set_option maxHeartbeats 8000000 in
theorem sameE (p : Nat) (l : Int) (w : World) (h : Own w p 47 exprC) : Calls Try.prog 14 #[.agg #[.iface 41 (.pointer (some ⟨p, 0, none⟩)), .int .i32 l], .agg #[.iface 41 (.pointer (some ⟨p, 0, none⟩)), .int .i32 l]] w (Yes w) := by
  have HO := Lib.hid h
  clear h
  go_enter Try.func14, Try.ntmps14
  go_wp2_with fail
  have HB0 := Lib.hid (Bx.start w (.iface 41 (.pointer (some ⟨p, 0, none⟩))) l)
  refine (e15 p l _ (HO.out.below HB0.out.below HO.out.lt)).mono ?_
  rintro e w1 ⟨rfl, hw⟩
  have HB1 := Lib.hid (HB0.out.grow hw)
  have r0_1 := HB1.out.r0
  have r1_1 := HB1.out.r1
  have r2_1 := HB1.out.r2
  have r3_1 := HB1.out.r3
  clear hw
  go_wp2_with fail
  clear r0_1 r1_1 r2_1 r3_1
  refine (e15 p l _ (HO.out.below HB1.out.below HO.out.lt)).mono ?_
  rintro e w2 ⟨rfl, hw⟩
  have HB2 := Lib.hid (HB1.out.grow hw)
  have r0_2 := HB2.out.r0
  have r1_2 := HB2.out.r1
  have r2_2 := HB2.out.r2
  have r3_2 := HB2.out.r3
  clear hw
  go_wp2_with fail
  clear r0_2 r1_2 r2_2 r3_2
  go_loopw [13] (fun x wr => x = .int .i64 0 ∧ Hid (Bx w (.iface 41 (.pointer (some ⟨p, 0, none⟩))) l wr)) (fun _ _ => 0)
  case atStart => exact ⟨rfl, HB2⟩
  case round =>
    obtain ⟨rfl, HB10⟩ := hrel
    have r0_10 := HB10.out.r0
    have r1_10 := HB10.out.r1
    have r2_10 := HB10.out.r2
    have r3_10 := HB10.out.r3
    go_upto_region 14 with fail
    go_region_held3 (fun W => Bx w (.iface 41 (.pointer (some ⟨p, 0, none⟩))) l W ∧ W.cell? ⟨w.heap.size, 0, none⟩ = some (.iface 41 (.pointer (some ⟨p, 0, none⟩))) ∧ W.cell? ⟨w.heap.size, 1, none⟩ = some (.int .i32 l) ∧ W.cell? ⟨w.heap.size + 1, 0, none⟩ = some (.iface 41 (.pointer (some ⟨p, 0, none⟩))) ∧ W.cell? ⟨w.heap.size + 1, 1, none⟩ = some (.int .i32 l))
      (first | with_reducible exact sKeep (by assumption) hw | exact sOf (HB10.out.drewN 1))
      ((go_at_call 17; refine (e17 p l _ (HO.out.below (sBelow (by assumption)) HO.out.lt)).mono ?_; rintro e w11 ⟨rfl, hw⟩))
    have HB11 := Lib.hid (sLeft (W := w11) (by assumption))
    clear hw
    clear r0_10 r1_10 r2_10 r3_10
    have r0_11 := HB11.out.r0
    have r1_11 := HB11.out.r1
    have r2_11 := HB11.out.r2
    have r3_11 := HB11.out.r3
    go_upto_region 16 with fail
    go_region_held3 (fun W => Bx w (.iface 41 (.pointer (some ⟨p, 0, none⟩))) l W ∧ W.cell? ⟨w.heap.size, 0, none⟩ = some (.iface 41 (.pointer (some ⟨p, 0, none⟩))) ∧ W.cell? ⟨w.heap.size, 1, none⟩ = some (.int .i32 l) ∧ W.cell? ⟨w.heap.size + 1, 0, none⟩ = some (.iface 41 (.pointer (some ⟨p, 0, none⟩))) ∧ W.cell? ⟨w.heap.size + 1, 1, none⟩ = some (.int .i32 l))
      (first | with_reducible exact sKeep (by assumption) hw | exact sOf (HB11.out.drewN 1))
      ((go_at_call 18; refine (e18 p l _ (HO.out.below (sBelow (by assumption)) HO.out.lt)).mono ?_; rintro e w12 ⟨rfl, hw⟩))
    have HB12 := Lib.hid (sLeft (W := w12) (by assumption))
    clear hw
    clear r0_11 r1_11 r2_11 r3_11
    have r0_12 := HB12.out.r0
    have r1_12 := HB12.out.r1
    have r2_12 := HB12.out.r2
    have r3_12 := HB12.out.r3
    go_wp2_with fail
    clear r0_12 r1_12 r2_12 r3_12
    refine (e19 p l _ (HO.out.below HB12.out.below HO.out.lt)).mono ?_
    rintro e w13 ⟨rfl, hw⟩
    have HB13 := Lib.hid (HB12.out.grow hw)
    have r0_13 := HB13.out.r0
    have r1_13 := HB13.out.r1
    have r2_13 := HB13.out.r2
    have r3_13 := HB13.out.r3
    clear hw
    go_wp2_with fail
    clear r0_13 r1_13 r2_13 r3_13
    refine (e19 p l _ (HO.out.below HB13.out.below HO.out.lt)).mono ?_
    rintro e w14 ⟨rfl, hw⟩
    have HB14 := Lib.hid (HB13.out.grow hw)
    have r0_14 := HB14.out.r0
    have r1_14 := HB14.out.r1
    have r2_14 := HB14.out.r2
    have r3_14 := HB14.out.r3
    clear hw
    go_wp2_with fail
    clear r0_14 r1_14 r2_14 r3_14
    refine (e20 p l _ (HO.out.below HB14.out.below HO.out.lt)).mono ?_
    rintro e w15 ⟨rfl, hw⟩
    have HB15 := Lib.hid (HB14.out.grow hw)
    have r0_15 := HB15.out.r0
    have r1_15 := HB15.out.r1
    have r2_15 := HB15.out.r2
    have r3_15 := HB15.out.r3
    clear hw
    go_wp2_with fail
    clear r0_15 r1_15 r2_15 r3_15
    refine (e20 p l _ (HO.out.below HB15.out.below HO.out.lt)).mono ?_
    rintro e w16 ⟨rfl, hw⟩
    have HB16 := Lib.hid (HB15.out.grow hw)
    have r0_16 := HB16.out.r0
    have r1_16 := HB16.out.r1
    have r2_16 := HB16.out.r2
    have r3_16 := HB16.out.r3
    clear hw
    go_wp2_with fail
    clear r0_16 r1_16 r2_16 r3_16
    refine (e21 p l _ (HO.out.below HB16.out.below HO.out.lt)).mono ?_
    rintro e w17 ⟨rfl, hw⟩
    have HB17 := Lib.hid (HB16.out.grow hw)
    have r0_17 := HB17.out.r0
    have r1_17 := HB17.out.r1
    have r2_17 := HB17.out.r2
    have r3_17 := HB17.out.r3
    clear hw
    go_wp2_with fail
    clear r0_17 r1_17 r2_17 r3_17
    refine (e21 p l _ (HO.out.below HB17.out.below HO.out.lt)).mono ?_
    rintro e w18 ⟨rfl, hw⟩
    have HB18 := Lib.hid (HB17.out.grow hw)
    have r0_18 := HB18.out.r0
    have r1_18 := HB18.out.r1
    have r2_18 := HB18.out.r2
    have r3_18 := HB18.out.r3
    clear hw
    go_wp2_with fail
    go_ret
    exact ⟨rfl, HB18.out.below⟩

def DeclsC (w : World) (d n : Nat) : Prop := ∀ j, j < n → ∃ (q : Nat) (a b : Int), w.cell? ⟨d, j * 4, none⟩ = some (.iface 49 (.pointer (some ⟨q, 0, none⟩))) ∧ w.cell? ⟨d, j * 4 + 2, none⟩ = some .nilIface ∧ q < w.heap.size ∧ Own w q 53 #[.int .u32 a, .int .u32 b]
theorem hd20 {w W : World} {d n : Nat} (h : DeclsC w d n) (hdl : d < w.heap.size) (hb : Below w.heap.size w W) (hn : n = 1) : (∃ q : Nat, W.cell? ⟨d, 0, none⟩ = some (.iface 49 (.pointer (some ⟨q, 0, none⟩)))) ∧ W.cell? ⟨d, 2, none⟩ = some .nilIface := by
  obtain ⟨q, a, b, h1, h2, _⟩ := h 0 (by omega)
  exact ⟨⟨q, (hb.cell (p := ⟨d, 0, none⟩) hdl).trans (by simpa using h1)⟩, (hb.cell (p := ⟨d, 2, none⟩) hdl).trans (by simpa using h2)⟩
set_option maxRecDepth 100000 in
set_option maxHeartbeats 8000000 in
theorem sameL (p : Nat) (l : Int) (w : World) (d n c : Nat) (kd : Int) (ex y : Bool) (h : Own w p 63 #[.slice (some ⟨d, 0, none⟩) n c, .int .u8 kd, .bool ex, .bool y]) (hdl : d < w.heap.size) (hD : DeclsC w d n) (hn : n ≤ 1200000000000) :
    Calls Try.prog 14 #[.agg #[.iface 60 (.pointer (some ⟨p, 0, none⟩)), .int .i32 l], .agg #[.iface 60 (.pointer (some ⟨p, 0, none⟩)), .int .i32 l]] w (Yes w) := by
  have HO := Lib.hid h
  have HD := Lib.hid hD
  clear h hD
  go_enter Try.func14, Try.ntmps14
  go_wp2_with fail
  have HB0 := Lib.hid (Bx.start w (.iface 60 (.pointer (some ⟨p, 0, none⟩))) l)
  refine (l15 p l _ d n c kd ex y (HO.out.below HB0.out.below HO.out.lt)).mono ?_
  rintro e w1 ⟨rfl, hw⟩
  have HB1 := Lib.hid (HB0.out.grow hw)
  have r0_1 := HB1.out.r0
  have r1_1 := HB1.out.r1
  have r2_1 := HB1.out.r2
  have r3_1 := HB1.out.r3
  clear hw
  go_wp2_with fail
  clear r0_1 r1_1 r2_1 r3_1
  refine (l15 p l _ d n c kd ex y (HO.out.below HB1.out.below HO.out.lt)).mono ?_
  rintro e w2 ⟨rfl, hw⟩
  have HB2 := Lib.hid (HB1.out.grow hw)
  have r0_2 := HB2.out.r0
  have r1_2 := HB2.out.r1
  have r2_2 := HB2.out.r2
  have r3_2 := HB2.out.r3
  clear hw
  go_wp2_with fail
  clear r0_2 r1_2 r2_2 r3_2
  go_loopw [13] (fun x wr => ∃ k : Nat, k ≤ n ∧ x = .int .i64 k ∧ Hid (Bx w (.iface 60 (.pointer (some ⟨p, 0, none⟩))) l wr)) (fun x _ => n - (intOf x).toNat)
  case atStart => exact ⟨0, by omega, rfl, HB2⟩
  case round =>
    obtain ⟨k, hk, rfl, HB3⟩ := hrel
    obtain ⟨w3, rfl⟩ : ∃ w3 : World, w3 = wr := ⟨_, rfl⟩
    by_cases hlt : k < n
    · obtain ⟨q, a, b, g0, g1, g2, g3⟩ := HD.out k hlt
      have HK := Lib.hid hlt
      have r0_3 := HB3.out.r0
      have r1_3 := HB3.out.r1
      have r2_3 := HB3.out.r2
      have r3_3 := HB3.out.r3
      go_wp2_with fail
      clear r0_3 r1_3 r2_3 r3_3
      refine (l16 p l _ d n c kd ex y (HO.out.below HB3.out.below HO.out.lt) k q a b hlt ((HB3.out.below.cell (p := ⟨d, k * 4, none⟩) hdl).trans g0) (g3.below HB3.out.below g2)).mono ?_
      rintro e w4 ⟨rfl, hw⟩
      have HB4 := Lib.hid (HB3.out.grow hw)
      clear hw
      have r0_4 := HB4.out.r0
      have r1_4 := HB4.out.r1
      have r2_4 := HB4.out.r2
      have r3_4 := HB4.out.r3
      go_wp2_with fail
      clear r0_4 r1_4 r2_4 r3_4
      refine (l16 p l _ d n c kd ex y (HO.out.below HB4.out.below HO.out.lt) k q a b hlt ((HB4.out.below.cell (p := ⟨d, k * 4, none⟩) hdl).trans g0) (g3.below HB4.out.below g2)).mono ?_
      rintro e w5 ⟨rfl, hw⟩
      have HB5 := Lib.hid (HB4.out.grow hw)
      clear hw
      go_wp2_with fail
      go_roundw
      case rel => exact ⟨k + 1, HK.out, by go_num, HB5⟩
      case measure =>
        have := HK.out
        simp [intOf]; omega
    · have z0 : decide (k < n) = false := decide_eq_false hlt
      obtain rfl : n = k := by omega
      obtain ⟨wz, rfl⟩ : ∃ wz : World, wz = w3 := ⟨_, rfl⟩
      have HB10 := HB3
      have r0_10 := HB10.out.r0
      have r1_10 := HB10.out.r1
      have r2_10 := HB10.out.r2
      have r3_10 := HB10.out.r3
      go_upto_region 14 with fail
      go_region_held3 (fun W => Bx w (.iface 60 (.pointer (some ⟨p, 0, none⟩))) l W ∧ W.cell? ⟨w.heap.size, 0, none⟩ = some (.iface 60 (.pointer (some ⟨p, 0, none⟩))) ∧ W.cell? ⟨w.heap.size, 1, none⟩ = some (.int .i32 l) ∧ W.cell? ⟨w.heap.size + 1, 0, none⟩ = some (.iface 60 (.pointer (some ⟨p, 0, none⟩))) ∧ W.cell? ⟨w.heap.size + 1, 1, none⟩ = some (.int .i32 l))
        (first | with_reducible exact sKeep (by assumption) hw | exact sOf (HB10.out.drewN 1))
        ((go_at_call 17; refine (l17 p l _ d n c kd ex y (HO.out.below (sBelow (by assumption)) HO.out.lt)).mono ?_; rintro e w11 ⟨rfl, hw⟩))
      have HB11 := Lib.hid (sLeft (W := w11) (by assumption))
      clear hw
      clear r0_10 r1_10 r2_10 r3_10
      have r0_11 := HB11.out.r0
      have r1_11 := HB11.out.r1
      have r2_11 := HB11.out.r2
      have r3_11 := HB11.out.r3
      go_upto_region 16 with fail
      go_region_held3 (fun W => Bx w (.iface 60 (.pointer (some ⟨p, 0, none⟩))) l W ∧ W.cell? ⟨w.heap.size, 0, none⟩ = some (.iface 60 (.pointer (some ⟨p, 0, none⟩))) ∧ W.cell? ⟨w.heap.size, 1, none⟩ = some (.int .i32 l) ∧ W.cell? ⟨w.heap.size + 1, 0, none⟩ = some (.iface 60 (.pointer (some ⟨p, 0, none⟩))) ∧ W.cell? ⟨w.heap.size + 1, 1, none⟩ = some (.int .i32 l))
        (first | with_reducible exact sKeep (by assumption) hw | exact sOf (HB11.out.drewN 1))
        ((go_at_call 18; refine (l18 p l _ d n c kd ex y (HO.out.below (sBelow (by assumption)) HO.out.lt)).mono ?_; rintro e w12 ⟨rfl, hw⟩))
      have HB12 := Lib.hid (sLeft (W := w12) (by assumption))
      clear hw
      clear r0_11 r1_11 r2_11 r3_11
      have r0_12 := HB12.out.r0
      have r1_12 := HB12.out.r1
      have r2_12 := HB12.out.r2
      have r3_12 := HB12.out.r3
      go_wp2_with fail
      clear r0_12 r1_12 r2_12 r3_12
      refine (l19 p l _ d n c kd ex y (HO.out.below HB12.out.below HO.out.lt)).mono ?_
      rintro e w13 ⟨rfl, hw⟩
      have HB13 := Lib.hid (HB12.out.grow hw)
      have r0_13 := HB13.out.r0
      have r1_13 := HB13.out.r1
      have r2_13 := HB13.out.r2
      have r3_13 := HB13.out.r3
      clear hw
      go_wp2_with fail
      clear r0_13 r1_13 r2_13 r3_13
      refine (l19 p l _ d n c kd ex y (HO.out.below HB13.out.below HO.out.lt)).mono ?_
      rintro e w14 ⟨rfl, hw⟩
      have HB14 := Lib.hid (HB13.out.grow hw)
      have r0_14 := HB14.out.r0
      have r1_14 := HB14.out.r1
      have r2_14 := HB14.out.r2
      have r3_14 := HB14.out.r3
      clear hw
      go_wp2_with fail
      clear r0_14 r1_14 r2_14 r3_14
      refine (l20 p l _ d n c kd ex y (HO.out.below HB14.out.below HO.out.lt) (fun hn1 => hd20 HD.out hdl HB14.out.below hn1)).mono ?_
      rintro e w15 ⟨rfl, hw⟩
      have HB15 := Lib.hid (HB14.out.grow hw)
      have r0_15 := HB15.out.r0
      have r1_15 := HB15.out.r1
      have r2_15 := HB15.out.r2
      have r3_15 := HB15.out.r3
      clear hw
      go_wp2_with fail
      clear r0_15 r1_15 r2_15 r3_15
      refine (l20 p l _ d n c kd ex y (HO.out.below HB15.out.below HO.out.lt) (fun hn1 => hd20 HD.out hdl HB15.out.below hn1)).mono ?_
      rintro e w16 ⟨rfl, hw⟩
      have HB16 := Lib.hid (HB15.out.grow hw)
      have r0_16 := HB16.out.r0
      have r1_16 := HB16.out.r1
      have r2_16 := HB16.out.r2
      have r3_16 := HB16.out.r3
      clear hw
      go_wp2_with fail
      clear r0_16 r1_16 r2_16 r3_16
      refine (l21 p l _ d n c kd ex y (HO.out.below HB16.out.below HO.out.lt)).mono ?_
      rintro e w17 ⟨rfl, hw⟩
      have HB17 := Lib.hid (HB16.out.grow hw)
      have r0_17 := HB17.out.r0
      have r1_17 := HB17.out.r1
      have r2_17 := HB17.out.r2
      have r3_17 := HB17.out.r3
      clear hw
      go_wp2_with fail
      clear r0_17 r1_17 r2_17 r3_17
      refine (l21 p l _ d n c kd ex y (HO.out.below HB17.out.below HO.out.lt)).mono ?_
      rintro e w18 ⟨rfl, hw⟩
      have HB18 := Lib.hid (HB17.out.grow hw)
      have r0_18 := HB18.out.r0
      have r1_18 := HB18.out.r1
      have r2_18 := HB18.out.r2
      have r3_18 := HB18.out.r3
      clear hw
      go_wp2_with fail
      go_ret
      exact ⟨rfl, HB18.out.below⟩
end Go.Proofs.Ytmjfdhgfpgeboaa.Gh
