/-
  Contract: a list of statements is the same as its copy. Conditions: sizes alone.
-/
import Derived.Test.YtmjfdhgfpgeboaaGh
namespace Go.Proofs.Ytmjfdhgfpgeboaa.Gi
open Go.RowKit Go.PlainAid Mem Sz Ga Gm Gg Gh
set_option linter.unusedVariables false
set_option linter.unusedSimpArgs false

theorem declsC_of {w W : World} {lo hi ql qh d n c : Nat} {xs : List Value} (hr : w.ownsRow 0 59 4 (.slice (some ⟨d, 0, none⟩) n c) n xs) (hd : Decls w ql qh n xs) (hdl : d < w.heap.size) (hq : qh ≤ w.heap.size) (hb : Below w.heap.size w W) : DeclsC W d n := fun j hj => by
  obtain ⟨q, a, b, x, y, h1, h2, h3, h4, h5, h6, h7⟩ := hd j hj
  have hc := hr.cells (g := d) rfl
  have e0 : ∀ i, (⟨d, 0, none⟩ : Addr).add i = ⟨d, i, none⟩ := fun i => by rw [add_none]; simp
  refine ⟨q, a, b, ?_, ?_, by have := hb.size; omega, h7.below hb (by omega)⟩
  · have := hc _ _ h1
    rw [e0] at this
    exact (hb.cell (p := ⟨d, j * 4, none⟩) hdl).trans this
  · have := hc _ _ h3
    rw [e0] at this
    exact (hb.cell (p := ⟨d, j * 4 + 2, none⟩) hdl).trans this

theorem same14 {w W : World} {lo hi ql qh N : Nat} {v : Value} {C : Option (Int × Bool)} (l : Int) (h : Ent w lo hi ql qh N v C) (hh : hi ≤ w.heap.size) (hq : qh ≤ w.heap.size) (hN : N ≤ 1200000000000) (hb : Below w.heap.size w W) :
    Calls Try.prog 14 #[.agg #[v, .int .i32 l], .agg #[v, .int .i32 l]] W (Yes W) := by
  rcases h with ⟨_, p, rfl, h1, h2, h3⟩ | ⟨p, kd, ex, _, rfl, d, n, c, xs, y, h1, h2, h3, h4, h5, h6, h7, h8, h9⟩
  · exact sameE p l W (h3.below hb (by omega))
  · exact sameL p l W d n c kd ex y (h7.below hb (by omega)) (by have := hb.size; omega) (declsC_of (lo := 0) (hi := 0) h8 h9 (by omega) hq hb) (by omega)

theorem keep4 {w W W1 : World} {p0 p1 p2 p3 : Addr} {u0 u1 u2 u3 : Value} (h0 : p0.block < w.heap.size) (h1 : p1.block < w.heap.size) (h2 : p2.block < w.heap.size) (h3 : p3.block < w.heap.size)
    (h : W.cell? p0 = some u0 ∧ W.cell? p1 = some u1 ∧ W.cell? p2 = some u2 ∧ W.cell? p3 = some u3 ∧ Below w.heap.size w W) (hw : Below W.heap.size W W1) :
    W1.cell? p0 = some u0 ∧ W1.cell? p1 = some u1 ∧ W1.cell? p2 = some u2 ∧ W1.cell? p3 = some u3 ∧ Below w.heap.size w W1 := by
  obtain ⟨a, b, c, d, e⟩ := h
  have := e.size
  exact ⟨(hw.cell (by omega)).trans a, (hw.cell (by omega)).trans b, (hw.cell (by omega)).trans c, (hw.cell (by omega)).trans d, e.trans (hw.mono this)⟩
theorem last4 {w W : World} {p0 p1 p2 p3 : Addr} {u0 u1 u2 u3 : Value} (h : W.cell? p0 = some u0 ∧ W.cell? p1 = some u1 ∧ W.cell? p2 = some u2 ∧ W.cell? p3 = some u3 ∧ Below w.heap.size w W) : Below w.heap.size w W := h.2.2.2.2

set_option maxRecDepth 100000 in
set_option maxHeartbeats 8000000 in
theorem same10 (n c c' rb sb lo hi ql qh N : Nat) (hn : n ≤ 65536) (V : Nat → Value) (C : Nat → Option (Int × Bool)) (l : Nat → Int) (w : World) (hrb : rb < w.heap.size) (hsb : sb < w.heap.size)
    (h0 : ∀ i, i < n → w.cell? ⟨rb, i * 2, none⟩ = some (V i) ∧ w.cell? ⟨rb, i * 2 + 1, none⟩ = some (.int .i32 (l i))) (h1 : ∀ i, i < n → w.cell? ⟨sb, i * 2, none⟩ = some (V i) ∧ w.cell? ⟨sb, i * 2 + 1, none⟩ = some (.int .i32 (l i)))
    (he : ∀ i, i < n → Ent w lo hi ql qh N (V i) (C i)) (hh : hi ≤ w.heap.size) (hq : qh ≤ w.heap.size) (hN : N ≤ 1200000000000) :
    Calls Try.prog 10 #[.slice (some ⟨rb, 0, none⟩) n c, .slice (some ⟨sb, 0, none⟩) n c'] w (Yes w) := by
  have H0 := Lib.hid h0
  have H1 := Lib.hid h1
  have HE := Lib.hid he
  clear h0 h1 he
  go_enter Try.func10, Try.ntmps10
  go_wp2_with fail
  go_loopw [5] (fun x wr => ∃ k : Nat, k ≤ n ∧ x = .int .i64 k ∧ Hid (Below w.heap.size w wr)) (fun x _ => n - (intOf x).toNat)
  case atStart => exact ⟨0, by omega, rfl, Lib.hid (Below.refl _ _)⟩
  case round =>
    obtain ⟨k, hk, rfl, HB⟩ := hrel
    obtain ⟨wo, rfl⟩ : ∃ wo : World, wo = wr := ⟨_, rfl⟩
    by_cases hlt : k < n
    · have q0 : (0 : Int) ≤ (k : Int) := by omega
      have q1 : (k : Int) < (n : Int) := by omega
      have a0 : wo.cell? ⟨rb, k * 2, none⟩ = some (V k) := (HB.out.cell (p := ⟨rb, k * 2, none⟩) hrb).trans (H0.out k hlt).1
      have a1 : wo.cell? ⟨rb, k * 2 + 1, none⟩ = some (.int .i32 (l k)) := (HB.out.cell (p := ⟨rb, k * 2 + 1, none⟩) hrb).trans (H0.out k hlt).2
      have b0 : wo.cell? ⟨sb, k * 2, none⟩ = some (V k) := (HB.out.cell (p := ⟨sb, k * 2, none⟩) hsb).trans (H1.out k hlt).1
      have b1 : wo.cell? ⟨sb, k * 2 + 1, none⟩ = some (.int .i32 (l k)) := (HB.out.cell (p := ⟨sb, k * 2 + 1, none⟩) hsb).trans (H1.out k hlt).2
      have HS := Lib.hid (fun (W : World) (hb : Below w.heap.size w W) => same14 (l k) (HE.out k hlt) hh hq hN hb)
      have HD := Lib.hid (Below.drew HB.out)
      go_upto_region 6 with fail
      go_region_held3 (fun W => W.cell? ⟨rb, k * 2, none⟩ = some (V k) ∧ W.cell? ⟨rb, k * 2 + 1, none⟩ = some (.int .i32 (l k)) ∧ W.cell? ⟨sb, k * 2, none⟩ = some (V k) ∧ W.cell? ⟨sb, k * 2 + 1, none⟩ = some (.int .i32 (l k)) ∧ Below w.heap.size w W)
        (first | with_reducible exact keep4 hrb hrb hsb hsb (by assumption) hw | exact ⟨a0, a1, b0, b1, HD.out⟩)
        ((go_at_call 14; refine (HS.out _ (last4 (by assumption))).mono ?_; rintro e w1 ⟨rfl, hw⟩))
      have HB1 := Lib.hid (HD.out.trans (Below.mono hw (show w.heap.size ≤ wo.drew.heap.size from HB.out.size)))
      clear hw a0 a1 b0 b1
      go_wp2_with fail
      go_roundw
      case rel => exact ⟨k + 1, by omega, by go_num, HB1⟩
      case measure => simp [intOf]; omega
    · have z0 : decide (k < n) = false := decide_eq_false hlt
      go_wp2_with fail
      go_ret
      exact ⟨rfl, HB.out⟩
end Go.Proofs.Ytmjfdhgfpgeboaa.Gi
