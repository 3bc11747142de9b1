/-
  Contracts for the law on the meta of a file: the meta itself, a new symbol map, the list of files. Conditions: sizes alone, the package's InvalidRef as its initialiser lays it.
-/
import Derived.Test.YtnchgmomfhollaaDoorKa
namespace Go.Proofs.YtnchgmomfhollaaDoor.Kb
open Go.RowKit Go.PlainAid Mem Rws Ka
set_option linter.unusedVariables false
theorem new_keep {w : World} {b o : Nat} {v : Value} (h : w.cell? ⟨b, o, none⟩ = some v) (x : Obj) : (w.alloc x).cell? ⟨b, o, none⟩ = some v := by
  rw [World.cell?_alloc_lt _ _ _ (World.block_lt_of_cell? w _ h)]; exact h
theorem run_assert {P : Program} {w : World} (t xT e : TypeId) (v : Value) (h : P.underlying t = some (.pointer e)) : (Instr.typeAssert (.iface t v) xT t false).run P w = .ok v w := by
  simp [Instr.typeAssert, run_underlying h, go_sem, Result.andThen]
/-- InvalidRef. -/
def Inv (w : World) : Prop := w.cell? ⟨0, 0, none⟩ = some (.int .u32 4294967295) ∧ w.cell? ⟨0, 1, none⟩ = some (.int .u32 4294967295)
theorem Inv.below {w w' : World} {B : Nat} (h : Inv w) (hb : Below B w w') (hB : 0 < B) : Inv w' :=
  ⟨(hb.cell (p := ⟨0, 0, none⟩) hB).trans h.1, (hb.cell (p := ⟨0, 1, none⟩) hB).trans h.2⟩
/-- What the meta of a file is. -/
def metaV (a0 a1 a2 a3 : Int) (b : Bool) (k : Int) : Value := if k = 2 then .agg #[.int .u32 a0, .int .u32 a1, .int .u32 a2, .int .u32 a3, .bool b] else .agg #[.int .u32 a0, .int .u32 a1, .int .u32 4294967295, .int .u32 4294967295, .bool b]
set_option maxRecDepth 100000 in
set_option maxHeartbeats 4000000 in
theorem meta14 (cb gf s n h : Nat) (w : World) (hs : s < n) (hn : n ≤ 4096) (hr : w.cell? ⟨gf, s * 24 + 2, none⟩ = some (.iface 164 (.pointer (some ⟨h, 0, none⟩)))) (a0 a1 a2 a3 : Int) (b : Bool) (k : Int) (c0 : w.cell? ⟨h, 52, none⟩ = some (.int .u32 a0)) (c1 : w.cell? ⟨h, 53, none⟩ = some (.int .u32 a1)) (c2 : w.cell? ⟨h, 48, none⟩ = some (.int .u32 a2)) (c3 : w.cell? ⟨h, 49, none⟩ = some (.int .u32 a3)) (c4 : w.cell? ⟨h, 10, none⟩ = some (.bool b)) (c5 : w.cell? ⟨h, 11, none⟩ = some (.int .u8 k)) (hI : Inv w) (hc : w.cell? ⟨cb, 10, none⟩ = some (.slice (some ⟨gf, 0, none⟩) n n)) : Calls Tryd.prog 14 #[.pointer (some ⟨cb, 0, none⟩), .int .u32 s] w fun e w' => e = .returned (metaV a0 a1 a2 a3 b k) ∧ Below w.heap.size w w' := by
  have hc1 := new_keep hc
  have hr1 := new_keep hr
  have d0 := new_keep c0
  have d1 := new_keep c1
  have d2 := new_keep c2
  have d3 := new_keep c3
  have d4 := new_keep c4
  have d5 := new_keep c5
  have i0 := new_keep hI.1
  have i1 := new_keep hI.2
  have hhn : w.heap.size ≠ h := fun e => by have := World.block_lt_of_cell? w _ c0; simp at this; omega
  have hcn : w.heap.size ≠ cb := fun e => by have := World.block_lt_of_cell? w _ hc; simp at this; omega
  have hgn : w.heap.size ≠ gf := fun e => by have := World.block_lt_of_cell? w _ hr; simp at this; omega
  have h0n : w.heap.size ≠ 0 := fun e => by have := World.block_lt_of_cell? w _ hI.1; simp at this; omega
  clear hc hr c0 c1 c2 c3 c4 c5 hI
  have hs0 : (0 : Int) ≤ (s : Int) := by omega
  have hs1 : (s : Int) < (n : Int) := by omega
  have hta := fun (W : World) (v : Value) => run_assert (P := Tryd.prog) (w := W) 164 147 _ v Tryd.underlying164
  go_enter Tryd.func14, Tryd.ntmps14
  by_cases hk : k = 2
  · have tk : (k == 2) = true := beq_iff_eq.2 hk
    unfold metaV
    rw [if_pos hk]
    clear hk
    go_wp2_with fail
    go_returns
    exact ⟨rfl, by go_grown⟩
  · have tk : (k == 2) = false := beq_eq_false_iff_ne.2 hk
    unfold metaV
    rw [if_neg hk]
    clear hk
    go_wp2_with fail
    go_returns
    exact ⟨rfl, by go_grown⟩
set_option maxRecDepth 100000 in
set_option maxHeartbeats 4000000 in
theorem meta11 (cb gf s n h : Nat) (w : World) (hs : s < n) (hn : n ≤ 4096) (hr : w.cell? ⟨gf, s * 24 + 2, none⟩ = some (.iface 164 (.pointer (some ⟨h, 0, none⟩)))) (a0 a1 a2 a3 : Int) (b : Bool) (k : Int) (c0 : w.cell? ⟨h, 52, none⟩ = some (.int .u32 a0)) (c1 : w.cell? ⟨h, 53, none⟩ = some (.int .u32 a1)) (c2 : w.cell? ⟨h, 48, none⟩ = some (.int .u32 a2)) (c3 : w.cell? ⟨h, 49, none⟩ = some (.int .u32 a3)) (c4 : w.cell? ⟨h, 10, none⟩ = some (.bool b)) (c5 : w.cell? ⟨h, 11, none⟩ = some (.int .u8 k)) (hI : Inv w) (hc : w.cell? ⟨cb, 10, none⟩ = some (.slice (some ⟨gf, 0, none⟩) n n)) : Calls Tryd.prog 11 #[.pointer (some ⟨cb, 0, none⟩), .int .u32 s] w fun e w' => e = .returned (metaV a0 a1 a2 a3 b k) ∧ Below w.heap.size w w' := by
  have H := Lib.hid (fun x : Obj => meta14 cb gf s n h (w.alloc x) hs hn (new_keep hr x) a0 a1 a2 a3 b k (new_keep c0 x) (new_keep c1 x) (new_keep c2 x) (new_keep c3 x) (new_keep c4 x) (new_keep c5 x) ⟨new_keep hI.1 x, new_keep hI.2 x⟩ (new_keep hc x))
  clear hr c0 c1 c2 c3 c4 c5 hI hc
  have hN := Own.new w 39 #[.int .u32 0, .int .u32 0, .int .u32 0, .int .u32 0, .bool false]
  have hB : Below w.heap.size w (w.alloc (.cells #[.int .u32 0, .int .u32 0, .int .u32 0, .int .u32 0, .bool false] 39)) := by go_grown
  go_enter Tryd.func11, Tryd.ntmps11
  go_wp2_with fail
  refine (H.out _).mono ?_
  rintro e w' ⟨rfl, hb⟩
  have hN1 := hN.below hb hN.lt
  have hB1 := hB.trans (hb.mono hB.size)
  have q0 := hN1.cell 0
  have q1 := hN1.cell 1
  have q2 := hN1.cell 2
  have q3 := hN1.cell 3
  have q4 := hN1.cell 4
  have f0 := hN1.frozen 0
  have f1 := hN1.frozen 1
  have f2 := hN1.frozen 2
  have f3 := hN1.frozen 3
  have f4 := hN1.frozen 4
  clear H hN hB hN1 hb
  unfold metaV
  by_cases hk : k = 2
  · rw [if_pos hk]
    have HK := Lib.hid hk
    clear hk
    go_wp2_with fail
    refine bodyPost_ret (by simp [results, Tryd.results11, go_sem, q0, q1, q2, q3, q4, metaV, HK.out]) rfl ⟨rfl, ?_⟩
    exact ((((hB1.setCell (Nat.le_refl _) _).setCell (Nat.le_refl _) _).setCell (Nat.le_refl _) _).setCell (Nat.le_refl _) _).setCell (Nat.le_refl _) _
  · rw [if_neg hk]
    have HK := Lib.hid hk
    clear hk
    go_wp2_with fail
    refine bodyPost_ret (by simp [results, Tryd.results11, go_sem, q0, q1, q2, q3, q4, metaV, HK.out]) rfl ⟨rfl, ?_⟩
    exact ((((hB1.setCell (Nat.le_refl _) _).setCell (Nat.le_refl _) _).setCell (Nat.le_refl _) _).setCell (Nat.le_refl _) _).setCell (Nat.le_refl _) _
set_option maxRecDepth 100000 in
theorem info166 : (Tryd.prog.info? 166).map (fun i => (i.zero, i.size, i.bytes)) = some (some (.slice none 0 0), 1, 24) := by kernel_rfl
/-- The new symbol map: a block of n nil slices. -/
def Sm (n : Nat) (w : World) (e : Ending) (w' : World) : Prop := ∃ g cs, e = .returned (.agg #[.slice (some ⟨g, 0, none⟩) n n]) ∧ w.heap.size ≤ g ∧ Own w' g 166 cs ∧ cs.size = n ∧ Below w.heap.size w w'
set_option maxRecDepth 100000 in
set_option maxHeartbeats 4000000 in
theorem sym12 (n : Nat) (hn : n ≤ 4096) (w : World) : Calls Tryd.prog 12 #[.int .i64 (n : Int)] w (Sm n w) := by
  have hmk := run_mk (P := Tryd.prog) 114 166 _ _ _ Tryd.underlying114 info166 n n (Nat.le_refl _) (by omega) (by omega)
  go_enter Tryd.func12, Tryd.ntmps12
  go_wp2_with fail
  go_returns
  refine ⟨w.heap.size + 1, madeCells #[.slice none 0 0] n, rfl, by omega, ?_, by simp [size_madeCells], by go_grown⟩
  have := Own.new (w.alloc (.cells #[.slice (some ⟨w.heap.size + 1, 0, none⟩) n n] 116)) 166 (madeCells #[.slice none 0 0] n)
  simpa using this
set_option maxRecDepth 100000 in
theorem info43 : (Tryd.prog.info? 43).map (fun i => (i.zero, i.size, i.bytes)) = some (some (.agg #[.int .u8 0, .bool false, .bool false, .bool false, .int .u32 0, .int .u32 0, .int .u32 0, .int .u32 0, .slice none 0 0]), 9, 48) := by kernel_rfl
theorem nine {W : World} {g o : Nat} (h : W.there g o 9) : ∃ x0 x1 x2 x3 x4 x5 x6 x7 x8 : Value, W.cell? ⟨g, o, none⟩ = some x0 ∧ W.cell? ⟨g, o + 1, none⟩ = some x1 ∧ W.cell? ⟨g, o + 2, none⟩ = some x2 ∧ W.cell? ⟨g, o + 3, none⟩ = some x3 ∧ W.cell? ⟨g, o + 4, none⟩ = some x4 ∧ W.cell? ⟨g, o + 5, none⟩ = some x5 ∧ W.cell? ⟨g, o + 6, none⟩ = some x6 ∧ W.cell? ⟨g, o + 7, none⟩ = some x7 ∧ W.cell? ⟨g, o + 8, none⟩ = some x8 ∧ W.frozen? ⟨g, o, none⟩ = false ∧ W.frozen? ⟨g, o + 1, none⟩ = false ∧ W.frozen? ⟨g, o + 2, none⟩ = false ∧ W.frozen? ⟨g, o + 3, none⟩ = false ∧ W.frozen? ⟨g, o + 4, none⟩ = false ∧ W.frozen? ⟨g, o + 5, none⟩ = false ∧ W.frozen? ⟨g, o + 6, none⟩ = false ∧ W.frozen? ⟨g, o + 7, none⟩ = false ∧ W.frozen? ⟨g, o + 8, none⟩ = false := by
  obtain ⟨x0, h0⟩ := Option.isSome_iff_exists.1 (h 0 (by omega)).1
  obtain ⟨x1, h1⟩ := Option.isSome_iff_exists.1 (h 1 (by omega)).1
  obtain ⟨x2, h2⟩ := Option.isSome_iff_exists.1 (h 2 (by omega)).1
  obtain ⟨x3, h3⟩ := Option.isSome_iff_exists.1 (h 3 (by omega)).1
  obtain ⟨x4, h4⟩ := Option.isSome_iff_exists.1 (h 4 (by omega)).1
  obtain ⟨x5, h5⟩ := Option.isSome_iff_exists.1 (h 5 (by omega)).1
  obtain ⟨x6, h6⟩ := Option.isSome_iff_exists.1 (h 6 (by omega)).1
  obtain ⟨x7, h7⟩ := Option.isSome_iff_exists.1 (h 7 (by omega)).1
  obtain ⟨x8, h8⟩ := Option.isSome_iff_exists.1 (h 8 (by omega)).1
  exact ⟨x0, x1, x2, x3, x4, x5, x6, x7, x8, h0, h1, h2, h3, h4, h5, h6, h7, h8, (h 0 (by omega)).2, (h 1 (by omega)).2, (h 2 (by omega)).2, (h 3 (by omega)).2, (h 4 (by omega)).2, (h 5 (by omega)).2, (h 6 (by omega)).2, (h 7 (by omega)).2, (h 8 (by omega)).2⟩
theorem chain9 (w : World) (g o : Nat) (v0 v1 v2 v3 v4 v5 v6 v7 v8 : Value) : (((((((((w.setCell ⟨g, o, none⟩ v0).setCell ⟨g, o + 1, none⟩ v1).setCell ⟨g, o + 2, none⟩ v2).setCell ⟨g, o + 3, none⟩ v3).setCell ⟨g, o + 4, none⟩ v4).setCell ⟨g, o + 5, none⟩ v5).setCell ⟨g, o + 6, none⟩ v6).setCell ⟨g, o + 7, none⟩ v7).setCell ⟨g, o + 8, none⟩ v8) = w.setCells g o [v0, v1, v2, v3, v4, v5, v6, v7, v8] := rfl
def rowF (Z0 : Nat → Int) (Z1 : Nat → Bool) (Z2 Z3 : Nat → Int) (i : Nat) : List Value := [.int .u8 (Z0 i), .bool (Z1 i), .bool true, .bool false, .int .u32 i, .int .u32 (Z2 i), .int .u32 i, .int .u32 (Z3 i), .slice none 0 0]
def Fl (n : Nat) (Z0 : Nat → Int) (Z1 : Nat → Bool) (Z2 Z3 : Nat → Int) (w : World) (e : Ending) (w' : World) : Prop :=
  ∃ g, e = .returned (.slice (some ⟨g, 0, none⟩) n n) ∧ w.heap.size ≤ g ∧ g < w'.heap.size ∧ (∀ i, i < n → ∀ r, r < 9 → w'.cell? ⟨g, i * 9 + r, none⟩ = some ((rowF Z0 Z1 Z2 Z3 i).getD r undef)) ∧ Below w.heap.size w w'
theorem Fl.start (n : Nat) (w : World) : ∃ F, Cells (w.alloc (.cells (madeCells (Value.agg #[.int .u8 0, .bool false, .bool false, .bool false, .int .u32 0, .int .u32 0, .int .u32 0, .int .u32 0, .slice none 0 0]).cells (n * 9)) 43)) w.heap.size 43 (n * 9) F :=
  ⟨_, _, Own.new _ _ _, by simp [size_madeCells], fun l hl => made_at _ _ _ hl⟩
set_option maxRecDepth 100000 in
set_option maxHeartbeats 4000000 in
theorem files9 (A0 : Option Addr) (n c0 : Nat) (Z0 : Nat → Int) (A1 : Option Addr) (c1 : Nat) (Z1 : Nat → Bool) (A2 : Option Addr) (c2 : Nat) (Z2 : Nat → Int) (A3 : Option Addr) (c3 : Nat) (Z3 : Nat → Int) (w : World) (hn : n ≤ 4096)
    (h0 : Rd w w.heap.size 1 A0 n (fun j => .int .u8 (Z0 j))) (h1 : Rd w w.heap.size 1 A1 n (fun j => .bool (Z1 j))) (h2 : Rd w w.heap.size 1 A2 n (fun j => .int .u32 (Z2 j))) (h3 : Rd w w.heap.size 1 A3 n (fun j => .int .u32 (Z3 j))) :
    Calls Tryd.prog 9 #[.slice A0 n c0, .slice A1 n c1, .slice A2 n c2, .slice A3 n c3] w (Fl n Z0 Z1 Z2 Z3 w) := by
  have hmk := run_mk (P := Tryd.prog) 31 43 _ _ _ Tryd.underlying31 info43 n n (Nat.le_refl _) (by omega) (by omega)
  have H0 := Lib.hid h0
  have H1 := Lib.hid h1
  have H2 := Lib.hid h2
  have H3 := Lib.hid h3
  clear h0 h1 h2 h3
  go_enter Tryd.func9, Tryd.ntmps9
  go_wp2_with fail
  go_loopw [10] (fun i wr => ∃ (k : Nat) (F : Nat → Value), k ≤ n ∧ i = .int .i64 k ∧ Hid (Cells wr w.heap.size 43 (n * 9) F) ∧ Hid (∀ i, i < k → ∀ r, r < 9 → F (i * 9 + r) = (rowF Z0 Z1 Z2 Z3 i).getD r undef) ∧ Hid (Below w.heap.size w wr)) (fun i _ => n - (intOf i).toNat)
  case atStart =>
    obtain ⟨F, hF⟩ := Fl.start n w
    exact ⟨0, F, by omega, rfl, Lib.hid hF, Lib.hid (fun i hi => by omega), Lib.hid (by go_grown)⟩
  case round =>
    obtain ⟨k, F, hk, rfl, HC, HD, HB⟩ := hrel
    obtain ⟨wo, rfl⟩ : ∃ wo : World, wo = wr := ⟨_, rfl⟩
    clear hmk
    by_cases hlt : k < n
    · obtain ⟨b0, o0, rfl, hb0, hc0⟩ := H0.out (by omega)
      obtain ⟨b1, o1, rfl, hb1, hc1⟩ := H1.out (by omega)
      obtain ⟨b2, o2, rfl, hb2, hc2⟩ := H2.out (by omega)
      obtain ⟨b3, o3, rfl, hb3, hc3⟩ := H3.out (by omega)
      have l0 := (HB.out.cell (p := ⟨b0, o0 + k, none⟩) hb0).trans (hc0 k (by omega))
      have l1 := (HB.out.cell (p := ⟨b1, o1 + k, none⟩) hb1).trans (hc1 k (by omega))
      have l2 := (HB.out.cell (p := ⟨b2, o2 + k, none⟩) hb2).trans (hc2 k (by omega))
      have l3 := (HB.out.cell (p := ⟨b3, o3 + k, none⟩) hb3).trans (hc3 k (by omega))
      clear hc0 hc1 hc2 hc3
      have hi0 : (0 : Int) ≤ (k : Int) := by omega
      have hi1 : (k : Int) < (n : Int) := by omega
      obtain ⟨x0, x1, x2, x3, x4, x5, x6, x7, x8, p0, p1, p2, p3, p4, p5, p6, p7, p8, f0, f1, f2, f3, f4, f5, f6, f7, f8⟩ := nine (HC.out.there (k * 9) 9 (by omega))
      go_wp2_with fail
      go_region
      clear l0 l1 l2 l3 p0 p1 p2 p3 p4 p5 p6 p7 p8 f0 f1 f2 f3 f4 f5 f6 f7 f8
      have hc2 := HC.out.set (k * 9) [.int .u8 (Z0 k), .bool (Z1 k), .bool true, .bool false, .int .u32 k, .int .u32 (Z2 k), .int .u32 k, .int .u32 (Z3 k), .slice none 0 0]
      have hb2 := below_setCells _ (Nat.le_refl _) [.int .u8 (Z0 k), .bool (Z1 k), .bool true, .bool false, .int .u32 k, .int .u32 (Z2 k), .int .u32 k, .int .u32 (Z3 k), .slice none 0 0] (k * 9) _ HB.out
      rw [← chain9] at hc2 hb2
      have HC2 := Lib.hid hc2
      have HB2 := Lib.hid hb2
      clear hc2 hb2
      go_wp2_with fail
      go_roundw
      case rel =>
        refine ⟨k + 1, over F (k * 9) [.int .u8 (Z0 k), .bool (Z1 k), .bool true, .bool false, .int .u32 k, .int .u32 (Z2 k), .int .u32 k, .int .u32 (Z3 k), .slice none 0 0], by omega, by go_num, ?_, Lib.hid fun i hi r hr => ?_, ?_⟩
        · first
            | with_reducible exact HC2
            | with_reducible exact Lib.hid HC2.out.drew
        · rw [over_at (m := 9) rfl hr]
          by_cases e : i = k
          · subst e; rw [if_pos rfl]; rfl
          · rw [if_neg e]; exact HD.out i (by omega) r hr
        · first
            | with_reducible exact HB2
            | with_reducible exact Lib.hid (below_drew HB2.out)
      case measure => simp [intOf]; omega
    · obtain rfl : k = n := by omega
      go_wp2_with fail
      go_ret
      exact ⟨w.heap.size, rfl, Nat.le_refl _, HC.out.lt, fun i hi r hr => by rw [HC.out.cell (by omega), HD.out i hi r hr], HB.out⟩
end Go.Proofs.YtnchgmomfhollaaDoor.Kb
