/-
  Proved: buildMsgs makes public messages with the contents of the source messages, in new blocks. Conditions: those that each theorem names as its
  hypotheses, and no others.
-/
import Derived.Test.YtmjfdhgfpgeboadCl
namespace Go.Proofs.Ytmjfdhgfpgeboad.Bm
open Go.RowKit Go.PlainAid Mem Ho Rws Orw Lcs Msr Pg Idp Ct Lp Cl
set_option linter.unusedVariables false
set_option linter.unusedSimpArgs false
/-- W is w0 but for new blocks and the n cells of block g from o on, which are there. -/
structure Kr (w0 : World) (g o n : Nat) (W : World) : Prop where
  cell : ∀ p : Addr, p.block < w0.heap.size → p.block ≠ g → W.cell? p = w0.cell? p
  there : W.there g o n
  size : w0.heap.size ≤ W.heap.size
  lt : g < w0.heap.size
theorem Kr.start {w : World} {g o n : Nat} (h : w.there g o n) (hg : g < w.heap.size) : Kr w g o n w := ⟨fun _ _ _ => rfl, h, Nat.le_refl _, hg⟩
theorem Kr.drew {w0 W : World} {g o n : Nat} (h : Kr w0 g o n W) : Kr w0 g o n W.drew := ⟨h.cell, h.there, h.size, h.lt⟩
theorem Kr.below {w0 W W1 : World} {g o n : Nat} (h : Kr w0 g o n W) (hb : Below W.heap.size W W1) : Kr w0 g o n W1 :=
  ⟨fun p hp hg => (hb.cell (p := p) (Nat.lt_of_lt_of_le hp h.size)).trans (h.cell p hp hg), there_below h.there (Nat.lt_of_lt_of_le h.lt h.size) hb, Nat.le_trans h.size hb.size, h.lt⟩
theorem Kr.put {w0 W : World} {g o n : Nat} (h : Kr w0 g o n W) (vs : List Value) : Kr w0 g o n (W.setCells g o vs) :=
  ⟨fun p hp hg => (World.cell?_setCells_out g vs o W p (fun e _ => absurd e hg)).trans (h.cell p hp hg), World.there_setCells h.there g o vs, by rw [size_setCells]; exact h.size, h.lt⟩
theorem there2 {W : World} {g o : Nat} (T : W.there g o 2) : ∃ x0 x1, W.cell? ⟨g, o, none⟩ = some x0 ∧ W.cell? ⟨g, o + 1, none⟩ = some x1 ∧ W.frozen? ⟨g, o, none⟩ = false ∧ W.frozen? ⟨g, o + 1, none⟩ = false := by
  obtain ⟨x0, hx0⟩ := Option.isSome_iff_exists.1 (T 0 (by omega)).1
  obtain ⟨x1, hx1⟩ := Option.isSome_iff_exists.1 (T 1 (by omega)).1
  exact ⟨x0, x1, hx0, hx1, (T 0 (by omega)).2, (T 1 (by omega)).2⟩
theorem Kr.put2 {w0 W : World} {g o : Nat} (h : Kr w0 g o 2 W) (v0 v1 : Value) : Kr w0 g o 2 ((W.setCell ⟨g, o, none⟩ v0).setCell ⟨g, o + 1, none⟩ v1) := h.put [v0, v1]
theorem chain2 (W : World) (g o : Nat) (v0 v1 : Value) : ((W.setCell ⟨g, o, none⟩ v0).setCell ⟨g, o + 1, none⟩ v1) = W.setCells g o [v0, v1] := rfl
theorem there6 {W : World} {g o : Nat} (T : W.there g o 6) : ∃ x0 x1 x2 x3 x4 x5, W.cell? ⟨g, o, none⟩ = some x0 ∧ W.cell? ⟨g, o + 1, none⟩ = some x1 ∧ W.cell? ⟨g, o + 2, none⟩ = some x2 ∧ W.cell? ⟨g, o + 3, none⟩ = some x3 ∧ W.cell? ⟨g, o + 4, none⟩ = some x4 ∧ W.cell? ⟨g, o + 5, none⟩ = some x5 ∧ W.frozen? ⟨g, o, none⟩ = false ∧ W.frozen? ⟨g, o + 1, none⟩ = false ∧ W.frozen? ⟨g, o + 2, none⟩ = false ∧ W.frozen? ⟨g, o + 3, none⟩ = false ∧ W.frozen? ⟨g, o + 4, none⟩ = false ∧ W.frozen? ⟨g, o + 5, none⟩ = false := by
  obtain ⟨x0, hx0⟩ := Option.isSome_iff_exists.1 (T 0 (by omega)).1
  obtain ⟨x1, hx1⟩ := Option.isSome_iff_exists.1 (T 1 (by omega)).1
  obtain ⟨x2, hx2⟩ := Option.isSome_iff_exists.1 (T 2 (by omega)).1
  obtain ⟨x3, hx3⟩ := Option.isSome_iff_exists.1 (T 3 (by omega)).1
  obtain ⟨x4, hx4⟩ := Option.isSome_iff_exists.1 (T 4 (by omega)).1
  obtain ⟨x5, hx5⟩ := Option.isSome_iff_exists.1 (T 5 (by omega)).1
  exact ⟨x0, x1, x2, x3, x4, x5, hx0, hx1, hx2, hx3, hx4, hx5, (T 0 (by omega)).2, (T 1 (by omega)).2, (T 2 (by omega)).2, (T 3 (by omega)).2, (T 4 (by omega)).2, (T 5 (by omega)).2⟩
theorem Kr.put6 {w0 W : World} {g o : Nat} (h : Kr w0 g o 6 W) (v0 v1 v2 v3 v4 v5 : Value) : Kr w0 g o 6 ((((((W.setCell ⟨g, o, none⟩ v0).setCell ⟨g, o + 1, none⟩ v1).setCell ⟨g, o + 2, none⟩ v2).setCell ⟨g, o + 3, none⟩ v3).setCell ⟨g, o + 4, none⟩ v4).setCell ⟨g, o + 5, none⟩ v5) := h.put [v0, v1, v2, v3, v4, v5]
theorem chain6 (W : World) (g o : Nat) (v0 v1 v2 v3 v4 v5 : Value) : ((((((W.setCell ⟨g, o, none⟩ v0).setCell ⟨g, o + 1, none⟩ v1).setCell ⟨g, o + 2, none⟩ v2).setCell ⟨g, o + 3, none⟩ v3).setCell ⟨g, o + 4, none⟩ v4).setCell ⟨g, o + 5, none⟩ v5) = W.setCells g o [v0, v1, v2, v3, v4, v5] := rfl
theorem ptr_no {w : World} {q : Option Addr} {fl ns lt sg : ByteArray} {ln co le : Int} (h : Ptr 58 aloc w ⟨false, fl, ns, ln, co, le, lt, sg⟩ q) : q = none := by
  rcases h with ⟨_, h⟩ | ⟨h, _⟩
  · exact h
  · cases h
theorem undrew {W w1 : World} (h : Below W.drew.heap.size W.drew w1) : Below W.heap.size W w1 := ⟨h.os, h.tape, h.output, h.size, h.block⟩
/-- A store of K cells into the midst of a block, as a step of a region that draws. -/
theorem step_put {P : Program} {ops : Array Oper} {op : Oper} {a : Act} {w : World} {K : Act → World → Prop} {Q : Exit → Act → World → Prop} {E : Prop}
    (hgd : op.guard = none) (ty : TypeId) (x y : Operand) (ho : op.op = .store ty x y) (b o n : Nat) (vs : List Value) (hx : a.eval x = .pointer (some ⟨b, o, none⟩)) (hy : a.eval y = .agg vs.toArray) (ht : w.there b o n) (hl : vs.length = n)
    (hi : (P.info? ty).map (·.size) = some n) (h1 : ∀ v ∈ vs, v.oneCell' = true) (hK : K (a.put op.dst undef) (w.setCells b o vs)) : if Region.wanted op (yielded ops a.tmps) = true then Oper.wp P op a w K Q else E := by
  have hw : Region.wanted op (yielded ops a.tmps) = true := by simp [Region.wanted, hgd]
  rw [if_pos hw]
  subst hl
  exact wp_store_mid ty x y ho b o vs.toArray hx hy (by simpa using ht) (by simpa using hi) (all_oneCell_toArray h1) (by simpa using hK)
theorem _root_.Go.Proofs.Ytmjfdhgfpgeboad.Ct.ANotes.keep {w w' : World} {A : Option Addr} {nn : Nat} {nt : Nat → Nt} (h : ANotes w A nn nt) (k : ∀ p t cs, Own w p t cs → t ≠ 53 → Own w' p t cs) : ANotes w' A nn nt := fun hn => by
  obtain ⟨g, cs, Q, e, o, hq⟩ := h hn
  exact ⟨g, cs, Q, e, k _ _ _ o (by decide), fun j hj => ⟨(hq j hj).1, (hq j hj).2.1, (hq j hj).2.2.keep fun p cs o => k _ _ _ o (by decide)⟩⟩
def arow (m : Ms) (A : Option Addr) (c : Nat) : List Value := [.string m.id, .string m.pl, .string m.tx, .pointer none, .slice A m.nn c, .nilIface]
def anote (nt : Nt) (q : Option Addr) : List Value := [.string nt.tx, .pointer q]
def Built (w : World) (n : Nat) (M : Nat → Ms) (e : Ending) (w' : World) : Prop := ∃ g, e = .returned (.slice (some ⟨g, 0, none⟩) n n) ∧ AMs w' g n M ∧ Below w.heap.size w w'
theorem ams_of {w : World} {g n : Nat} {M : Nat → Ms} {NA : Nat → Option Addr} {NC : Nat → Nat} (h : Filled w g 53 6 n n (fun i => arow (M i) (NA i) (NC i))) (hn : ∀ i, i < n → ANotes w (NA i) (M i).nn (M i).nt) : AMs w g n M := by
  obtain ⟨cs, o, s, hc⟩ := h
  refine ⟨cs, o, fun i hi => ⟨NA i, NC i, hc i hi 0 (by decide), hc i hi 1 (by decide), hc i hi 2 (by decide), hc i hi 3 (by decide), hc i hi 4 (by decide), hc i hi 5 (by decide), hn i hi⟩⟩
theorem anotes_of {w : World} {g nn : Nat} {nt : Nat → Nt} {Q : Nat → Option Addr} (h : Filled w g 51 2 nn nn (fun j => anote (nt j) (Q j))) (hn : ∀ j, j < nn → Ptr 58 aloc w (nt j).lc (Q j)) : ANotes w (some ⟨g, 0, none⟩) nn nt := by
  obtain ⟨cs, o, s, hc⟩ := h
  exact fun _ => ⟨g, cs, Q, rfl, o, fun j hj => ⟨hc j hj 0 (by decide), hc j hj 1 (by decide), hn j hj⟩⟩
set_option maxRecDepth 100000 in
set_option maxHeartbeats 4000000 in
theorem build8 (A : Option Addr) (n c : Nat) (M : Nat → Ms) (w : World) (hs : Src w A n M) (hn : n ≤ 1048576) (hnn : ∀ i, i < n → (M i).nn ≤ 1048576) (hpr : ∀ i, i < n → (M i).lc.pr = false) (hz : A = none → n = 0) : Calls Try.prog 8 #[.slice A n c] w (Built w n M) := by
  have HS := Lib.hid hs
  have HN := Lib.hid hnn
  have HPR := Lib.hid hpr
  have HZ := Lib.hid hz
  clear hs hnn hpr hz
  have hmk := run_mkc (P := Try.prog) 33 53 _ z53 rfl _ _ Try.underlying33 info53 n n (Nat.le_refl _) (by omega) (by omega)
  go_enter Try.func8, Try.ntmps8
  go_wp2_with fail
  generalize hWm : w.alloc _ = Wm
  have HBm : Hid (Below w.heap.size w Wm) := Lib.hid (by rw [← hWm]; exact (Below.refl _ _).alloc (Nat.le_refl _) _)
  have hom : Own Wm w.heap.size 53 (madeCells z53 (n * 6)) := by rw [← hWm]; exact Own.new _ _ _
  go_loopw [4] (fun i wr => ∃ (k : Nat) (NA : Nat → Option Addr) (NC : Nat → Nat), i = .int .i64 k ∧ k ≤ n ∧ Hid (Filled wr w.heap.size 53 6 n k (fun i => arow (M i) (NA i) (NC i))) ∧ Hid (∀ i, i < k → ANotes wr (NA i) (M i).nn (M i).nt) ∧ Hid (Below w.heap.size w wr)) (fun i _ => n - (intOf i).toNat)
  case atStart => exact ⟨0, fun _ => none, fun _ => 0, rfl, by omega, Lib.hid (Filled.zero hom (made_size _ _)), Lib.hid (fun i hi => absurd hi (by omega)), HBm⟩
  case round =>
    clear HBm hom hWm hmk
    obtain ⟨k, NA, NC, rfl, hk, HF, HW, HB⟩ := hrel
    obtain ⟨wo, rfl⟩ : ∃ wo : World, wo = wr := ⟨_, rfl⟩
    by_cases hlt : k < n
    · have hs := HS.out.below HB.out
      obtain ⟨a, rfl⟩ : ∃ a, A = some a := by
        cases A with
        | none => exact absurd (HZ.out rfl) (by omega)
        | some a => exact ⟨a, rfl⟩
      obtain ⟨b, off, rfl, hbl, hcs⟩ := src_cells HS.out (by omega)
      have hwf := hs.2 k hlt
      have hcw := hcs k hlt
      clear hcs hs
      have hgw : w.heap.size < wo.heap.size := HF.out.lt
      obtain ⟨m, hm⟩ : ∃ m, m = M k := ⟨_, rfl⟩
      have hq1 := HN.out k hlt
      have hq2 := HPR.out k hlt
      rw [← hm] at hcw hwf hq1 hq2
      obtain ⟨id, pl, tx, ⟨pr, fl, ns, ln, co, le, lt, sg⟩, nA, nn, nc, nt⟩ := m
      obtain rfl : pr = false := hq2
      have hq3 : nn ≤ 1048576 := hq1
      clear hq1
      have c0 : w.cell? ⟨b, off + k * 12, none⟩ = some (.string id) := (hcw 0 (by decide)).trans rfl
      have c1 : w.cell? ⟨b, off + k * 12 + 1, none⟩ = some (.string pl) := (hcw 1 (by decide)).trans rfl
      have c2 : w.cell? ⟨b, off + k * 12 + 2, none⟩ = some (.string tx) := (hcw 2 (by decide)).trans rfl
      have c3 : w.cell? ⟨b, off + k * 12 + 3, none⟩ = some (.bool false) := (hcw 3 (by decide)).trans rfl
      have c4 : w.cell? ⟨b, off + k * 12 + 4, none⟩ = some (.string fl) := (hcw 4 (by decide)).trans rfl
      have c5 : w.cell? ⟨b, off + k * 12 + 5, none⟩ = some (.string ns) := (hcw 5 (by decide)).trans rfl
      have c6 : w.cell? ⟨b, off + k * 12 + 6, none⟩ = some (.int .i64 ln) := (hcw 6 (by decide)).trans rfl
      have c7 : w.cell? ⟨b, off + k * 12 + 7, none⟩ = some (.int .i64 co) := (hcw 7 (by decide)).trans rfl
      have c8 : w.cell? ⟨b, off + k * 12 + 8, none⟩ = some (.int .i64 le) := (hcw 8 (by decide)).trans rfl
      have c9 : w.cell? ⟨b, off + k * 12 + 9, none⟩ = some (.string lt) := (hcw 9 (by decide)).trans rfl
      have c10 : w.cell? ⟨b, off + k * 12 + 10, none⟩ = some (.string sg) := (hcw 10 (by decide)).trans rfl
      have c11 : w.cell? ⟨b, off + k * 12 + 11, none⟩ = some (.slice nA nn nc) := (hcw 11 (by decide)).trans rfl
      clear hcw
      have q0 : (0 : Int) ≤ (k : Int) := by omega
      have q1 : (k : Int) < (n : Int) := by omega
      have HM := Lib.hid hm
      have HV := Lib.hid hwf
      clear hm hwf
      have hcl := Lib.hid (show ∀ (W : World) (q : Nat) (v : Value), Below w.heap.size w W → w.cell? ⟨b, off + k * 12 + q, none⟩ = some v → W.cell? ⟨b, off + k * 12 + q, none⟩ = some v from fun W q v hb h => (hb.cell (p := ⟨b, off + k * 12 + q, none⟩) hbl).trans h)
      have hneq := fun W => run_neq_slice_nil (P := Try.prog) W 27 45 nA nn nc Try.underlying27
      cases nA with
      | none =>
        obtain ⟨rfl, rfl⟩ : nn = 0 ∧ nc = 0 := HV.out.nil rfl
        have r11 := hcl.out wo 11 _ HB.out c11
        go_upto_region 12 with fail
        have wosize : wo.heap.size ≤ wo.heap.size := Nat.le_refl _
        have wolt : b < wo.heap.size := Nat.lt_of_lt_of_le hbl HB.out.size
        have wone : b ≠ w.heap.size := by omega
        have hkr : Kr wo w.heap.size (k * 6) 6 wo := Kr.start (Filled.there HF.out hlt) (Nat.lt_of_lt_of_le HF.out.lt wosize)
        have hS := Lib.hid (show ∀ W, Kr wo w.heap.size (k * 6) 6 W → (fun W => Kr wo w.heap.size (k * 6) 6 W ∧ W.cell? ⟨b, off + k * 12, none⟩ = some (.string id) ∧ W.cell? ⟨b, off + k * 12 + 1, none⟩ = some (.string pl) ∧ W.cell? ⟨b, off + k * 12 + 2, none⟩ = some (.string tx) ∧ W.cell? ⟨b, off + k * 12 + 3, none⟩ = some (.bool false) ∧ W.cell? ⟨b, off + k * 12 + 4, none⟩ = some (.string fl) ∧ W.cell? ⟨b, off + k * 12 + 5, none⟩ = some (.string ns) ∧ W.cell? ⟨b, off + k * 12 + 6, none⟩ = some (.int .i64 ln) ∧ W.cell? ⟨b, off + k * 12 + 7, none⟩ = some (.int .i64 co) ∧ W.cell? ⟨b, off + k * 12 + 8, none⟩ = some (.int .i64 le) ∧ W.cell? ⟨b, off + k * 12 + 9, none⟩ = some (.string lt) ∧ W.cell? ⟨b, off + k * 12 + 10, none⟩ = some (.string sg)) W from fun W h => ⟨h, (h.cell ⟨b, off + k * 12, none⟩ wolt wone).trans ((HB.out.cell (p := ⟨b, off + k * 12, none⟩) hbl).trans c0), (h.cell ⟨b, off + k * 12 + 1, none⟩ wolt wone).trans ((HB.out.cell (p := ⟨b, off + k * 12 + 1, none⟩) hbl).trans c1), (h.cell ⟨b, off + k * 12 + 2, none⟩ wolt wone).trans ((HB.out.cell (p := ⟨b, off + k * 12 + 2, none⟩) hbl).trans c2), (h.cell ⟨b, off + k * 12 + 3, none⟩ wolt wone).trans ((HB.out.cell (p := ⟨b, off + k * 12 + 3, none⟩) hbl).trans c3), (h.cell ⟨b, off + k * 12 + 4, none⟩ wolt wone).trans ((HB.out.cell (p := ⟨b, off + k * 12 + 4, none⟩) hbl).trans c4), (h.cell ⟨b, off + k * 12 + 5, none⟩ wolt wone).trans ((HB.out.cell (p := ⟨b, off + k * 12 + 5, none⟩) hbl).trans c5), (h.cell ⟨b, off + k * 12 + 6, none⟩ wolt wone).trans ((HB.out.cell (p := ⟨b, off + k * 12 + 6, none⟩) hbl).trans c6), (h.cell ⟨b, off + k * 12 + 7, none⟩ wolt wone).trans ((HB.out.cell (p := ⟨b, off + k * 12 + 7, none⟩) hbl).trans c7), (h.cell ⟨b, off + k * 12 + 8, none⟩ wolt wone).trans ((HB.out.cell (p := ⟨b, off + k * 12 + 8, none⟩) hbl).trans c8), (h.cell ⟨b, off + k * 12 + 9, none⟩ wolt wone).trans ((HB.out.cell (p := ⟨b, off + k * 12 + 9, none⟩) hbl).trans c9), (h.cell ⟨b, off + k * 12 + 10, none⟩ wolt wone).trans ((HB.out.cell (p := ⟨b, off + k * 12 + 10, none⟩) hbl).trans c10)⟩)
        go_region_held3 (fun W => Kr wo w.heap.size (k * 6) 6 W ∧ W.cell? ⟨b, off + k * 12, none⟩ = some (.string id) ∧ W.cell? ⟨b, off + k * 12 + 1, none⟩ = some (.string pl) ∧ W.cell? ⟨b, off + k * 12 + 2, none⟩ = some (.string tx) ∧ W.cell? ⟨b, off + k * 12 + 3, none⟩ = some (.bool false) ∧ W.cell? ⟨b, off + k * 12 + 4, none⟩ = some (.string fl) ∧ W.cell? ⟨b, off + k * 12 + 5, none⟩ = some (.string ns) ∧ W.cell? ⟨b, off + k * 12 + 6, none⟩ = some (.int .i64 ln) ∧ W.cell? ⟨b, off + k * 12 + 7, none⟩ = some (.int .i64 co) ∧ W.cell? ⟨b, off + k * 12 + 8, none⟩ = some (.int .i64 le) ∧ W.cell? ⟨b, off + k * 12 + 9, none⟩ = some (.string lt) ∧ W.cell? ⟨b, off + k * 12 + 10, none⟩ = some (.string sg))
          (first | (rw [chain6]; with_reducible exact hS.out _ (Kr.put (And.left (by assumption)) _)) | with_reducible exact hS.out _ hkr.drew | with_reducible exact hS.out _ (Kr.below (And.left (by assumption)) hb1))
          (first
            | (go_at_call 13; refine (build13 ⟨false, fl, ns, ln, co, le, lt, sg⟩ _).mono ?_; rintro e w1 ⟨q1, rfl, hp1, hb1⟩; obtain rfl : q1 = none := ptr_no hp1; obtain ⟨x0, x1, x2, x3, x4, x5, y0, y1, y2, y3, y4, y5, f0, f1, f2, f3, f4, f5⟩ := there6 (Kr.there (Kr.below (And.left (by assumption)) hb1))))
        have hu1 : Below wo.heap.size wo w1 := undrew hb1
        have HF3 : Hid (Filled w1 w.heap.size 53 6 n k (fun i => arow (M i) (NA i) (NC i))) := Lib.hid (HF.out.below hu1)
        have HA3 : Hid (∀ i, i < k + 1 → ANotes w1 (if i = k then none else NA i) (M i).nn (M i).nt) := Lib.hid (by
          intro i hi
          have han : ANotes wo (if i = k then none else NA i) (M i).nn (M i).nt := (by
            by_cases h : i = k
            · subst h
              rw [← HM.out]
              exact fun h => absurd h (by simp)
            · rw [if_neg h]
              exact HW.out i (by omega))
          exact han.keep fun p t cs o _ => o.below hu1 o.lt)
        have HB3 : Hid (Below w.heap.size w w1) := Lib.hid ((HB.out.trans (hu1.mono (HB.out.size))))
        clear hp1 hb1 hu1 hS hkr f0 f1 f2 f3 f4 f5 y0 y1 y2 y3 y4 y5
        go_wp2_with fail
        go_roundw
        case rel =>
          rw [chain6]
          refine ⟨k + 1, fun i => if i = k then none else NA i, fun i => if i = k then 0 else NC i, by go_num, by omega, Lib.hid (Filled.set (F := fun i => arow (M i) (if i = k then none else NA i) (if i = k then 0 else NC i)) (HF3.out.congr fun i hi => by simp only [if_neg (show i ≠ k by omega)]) hlt ?_ rfl), Lib.hid fun i hi => (HA3.out i hi).keep fun p t cs o ht => ?_, Lib.hid (Go.Proofs.Ytmjfdhgfpgeboad.Rws.below_setCells _ (Nat.le_refl _) _ _ _ HB3.out)⟩
          · simp only [if_true]
            rw [← HM.out]
            rfl
          · obtain ⟨cs', o', _⟩ := HF3.out
            exact Own.farCells (own_ne o o' ht) _ _ _ o
        case measure => simp [intOf]; omega
      | some na =>
        have hmk2 := run_mkc (P := Try.prog) 47 51 _ z51 rfl _ _ Try.underlying47 info51 nn nn (Nat.le_refl _) (by omega) (by omega)
        have r11 := hcl.out wo 11 _ HB.out c11
        go_upto_region 8 with fail
        generalize hWn : wo.alloc _ = Wn
        have hon : Own Wn wo.heap.size 51 (madeCells z51 (nn * 2)) := by rw [← hWn]; exact Own.new _ _ _
        have HBn : Hid (Below wo.heap.size wo Wn) := Lib.hid (by rw [← hWn]; exact (Below.refl _ _).alloc (Nat.le_refl _) _)
        have HFn : Hid (Filled Wn wo.heap.size 51 2 nn 0 (fun j => anote (nt j) none)) := Lib.hid (Filled.zero hon (made_size _ _))
        clear hWn r11 hon hmk2
        go_wp2_with fail
        go_loopw [6] (fun i wr => ∃ (j : Nat) (Q : Nat → Option Addr), i = .int .i64 j ∧ j ≤ nn ∧ Hid (Filled wr wo.heap.size 51 2 nn j (fun j => anote (nt j) (Q j))) ∧ Hid (∀ l, l < j → Ptr 58 aloc wr (nt l).lc (Q l)) ∧ Hid (Below wo.heap.size wo wr)) (fun i _ => nn - (intOf i).toNat)
        case atStart => exact ⟨0, fun _ => none, rfl, by omega, HFn, Lib.hid (fun l hl => absurd hl (by omega)), HBn⟩
        case round =>
          clear HFn HBn
          obtain ⟨j, Q, rfl, hj, HFj, HQj, HBj⟩ := hrel
          obtain ⟨wi, rfl⟩ : ∃ wi : World, wi = wr := ⟨_, rfl⟩
          have HBw : Hid (Below w.heap.size w wi) := Lib.hid (HB.out.trans (HBj.out.mono HB.out.size))
          have r11 := hcl.out wi 11 _ HBw.out c11
          have hjw : wo.heap.size < wi.heap.size := HFj.out.lt
          by_cases hjl : j < nn
          · obtain ⟨nb, noff, hna, hnbl, hns⟩ := note_cells HV.out rfl (show 0 < nn by omega)
            subst hna
            obtain ⟨nj, hnj⟩ : ∃ nj, nj = nt j := ⟨_, rfl⟩
            have hnc := hns j hjl
            simp only [] at hnc
            rw [← hnj] at hnc
            obtain ⟨ntx, npr, nfl, nns, nln, nco, nle, nlt, nsg⟩ := nj
            have m0 : wo.cell? ⟨nb, noff + j * 9, none⟩ = some (.string ntx) := (hnc 0 (by decide)).trans rfl
            have m1 : wo.cell? ⟨nb, noff + j * 9 + 1, none⟩ = some (.bool npr) := (hnc 1 (by decide)).trans rfl
            have m2 : wo.cell? ⟨nb, noff + j * 9 + 2, none⟩ = some (.string nfl) := (hnc 2 (by decide)).trans rfl
            have m3 : wo.cell? ⟨nb, noff + j * 9 + 3, none⟩ = some (.string nns) := (hnc 3 (by decide)).trans rfl
            have m4 : wo.cell? ⟨nb, noff + j * 9 + 4, none⟩ = some (.int .i64 nln) := (hnc 4 (by decide)).trans rfl
            have m5 : wo.cell? ⟨nb, noff + j * 9 + 5, none⟩ = some (.int .i64 nco) := (hnc 5 (by decide)).trans rfl
            have m6 : wo.cell? ⟨nb, noff + j * 9 + 6, none⟩ = some (.int .i64 nle) := (hnc 6 (by decide)).trans rfl
            have m7 : wo.cell? ⟨nb, noff + j * 9 + 7, none⟩ = some (.string nlt) := (hnc 7 (by decide)).trans rfl
            have m8 : wo.cell? ⟨nb, noff + j * 9 + 8, none⟩ = some (.string nsg) := (hnc 8 (by decide)).trans rfl
            clear hns hnc
            have HNJ := Lib.hid hnj
            have p0 : (0 : Int) ≤ (j : Int) := by omega
            have p1 : (j : Int) < (nn : Int) := by omega
            clear hnj
            go_upto_region 11 with fail
            have hkr : Kr wi wo.heap.size (j * 2) 2 wi := Kr.start (Filled.there HFj.out hjl) HFj.out.lt
            have hbw : b < wo.heap.size := Nat.lt_of_lt_of_le hbl HB.out.size
            have hS := Lib.hid (show ∀ W, Kr wi wo.heap.size (j * 2) 2 W → (fun W => Kr wi wo.heap.size (j * 2) 2 W ∧ W.cell? ⟨b, off + k * 12 + 11, none⟩ = some (.slice (some ⟨nb, noff, none⟩) nn nc) ∧ W.cell? ⟨nb, noff + j * 9, none⟩ = some (.string ntx) ∧ W.cell? ⟨nb, noff + j * 9 + 1, none⟩ = some (.bool npr) ∧ W.cell? ⟨nb, noff + j * 9 + 2, none⟩ = some (.string nfl) ∧ W.cell? ⟨nb, noff + j * 9 + 3, none⟩ = some (.string nns) ∧ W.cell? ⟨nb, noff + j * 9 + 4, none⟩ = some (.int .i64 nln) ∧ W.cell? ⟨nb, noff + j * 9 + 5, none⟩ = some (.int .i64 nco) ∧ W.cell? ⟨nb, noff + j * 9 + 6, none⟩ = some (.int .i64 nle) ∧ W.cell? ⟨nb, noff + j * 9 + 7, none⟩ = some (.string nlt) ∧ W.cell? ⟨nb, noff + j * 9 + 8, none⟩ = some (.string nsg)) W from fun W h => ⟨h, (h.cell ⟨b, off + k * 12 + 11, none⟩ (show b < wi.heap.size by omega) (show b ≠ wo.heap.size by omega)).trans r11, (h.cell ⟨nb, noff + j * 9, none⟩ (show nb < wi.heap.size by omega) (show nb ≠ wo.heap.size by omega)).trans ((HBj.out.cell (p := ⟨nb, noff + j * 9, none⟩) hnbl).trans m0), (h.cell ⟨nb, noff + j * 9 + 1, none⟩ (show nb < wi.heap.size by omega) (show nb ≠ wo.heap.size by omega)).trans ((HBj.out.cell (p := ⟨nb, noff + j * 9 + 1, none⟩) hnbl).trans m1), (h.cell ⟨nb, noff + j * 9 + 2, none⟩ (show nb < wi.heap.size by omega) (show nb ≠ wo.heap.size by omega)).trans ((HBj.out.cell (p := ⟨nb, noff + j * 9 + 2, none⟩) hnbl).trans m2), (h.cell ⟨nb, noff + j * 9 + 3, none⟩ (show nb < wi.heap.size by omega) (show nb ≠ wo.heap.size by omega)).trans ((HBj.out.cell (p := ⟨nb, noff + j * 9 + 3, none⟩) hnbl).trans m3), (h.cell ⟨nb, noff + j * 9 + 4, none⟩ (show nb < wi.heap.size by omega) (show nb ≠ wo.heap.size by omega)).trans ((HBj.out.cell (p := ⟨nb, noff + j * 9 + 4, none⟩) hnbl).trans m4), (h.cell ⟨nb, noff + j * 9 + 5, none⟩ (show nb < wi.heap.size by omega) (show nb ≠ wo.heap.size by omega)).trans ((HBj.out.cell (p := ⟨nb, noff + j * 9 + 5, none⟩) hnbl).trans m5), (h.cell ⟨nb, noff + j * 9 + 6, none⟩ (show nb < wi.heap.size by omega) (show nb ≠ wo.heap.size by omega)).trans ((HBj.out.cell (p := ⟨nb, noff + j * 9 + 6, none⟩) hnbl).trans m6), (h.cell ⟨nb, noff + j * 9 + 7, none⟩ (show nb < wi.heap.size by omega) (show nb ≠ wo.heap.size by omega)).trans ((HBj.out.cell (p := ⟨nb, noff + j * 9 + 7, none⟩) hnbl).trans m7), (h.cell ⟨nb, noff + j * 9 + 8, none⟩ (show nb < wi.heap.size by omega) (show nb ≠ wo.heap.size by omega)).trans ((HBj.out.cell (p := ⟨nb, noff + j * 9 + 8, none⟩) hnbl).trans m8)⟩)
            clear r11 m0 m1 m2 m3 m4 m5 m6 m7 m8
            go_region_held3 (fun W => Kr wi wo.heap.size (j * 2) 2 W ∧ W.cell? ⟨b, off + k * 12 + 11, none⟩ = some (.slice (some ⟨nb, noff, none⟩) nn nc) ∧ W.cell? ⟨nb, noff + j * 9, none⟩ = some (.string ntx) ∧ W.cell? ⟨nb, noff + j * 9 + 1, none⟩ = some (.bool npr) ∧ W.cell? ⟨nb, noff + j * 9 + 2, none⟩ = some (.string nfl) ∧ W.cell? ⟨nb, noff + j * 9 + 3, none⟩ = some (.string nns) ∧ W.cell? ⟨nb, noff + j * 9 + 4, none⟩ = some (.int .i64 nln) ∧ W.cell? ⟨nb, noff + j * 9 + 5, none⟩ = some (.int .i64 nco) ∧ W.cell? ⟨nb, noff + j * 9 + 6, none⟩ = some (.int .i64 nle) ∧ W.cell? ⟨nb, noff + j * 9 + 7, none⟩ = some (.string nlt) ∧ W.cell? ⟨nb, noff + j * 9 + 8, none⟩ = some (.string nsg))
              (first | (rw [chain2]; with_reducible exact hS.out _ (Kr.put (And.left (by assumption)) _)) | with_reducible exact hS.out _ hkr.drew | with_reducible exact hS.out _ (Kr.below (And.left (by assumption)) hb1))
              (first
                | (go_at_call 13; refine (build13 ⟨npr, nfl, nns, nln, nco, nle, nlt, nsg⟩ _).mono ?_; rintro e w1 ⟨q1, rfl, hp1, hb1⟩; obtain ⟨x0, x1, y0, y1, f0, f1⟩ := there2 (Kr.there (Kr.below (And.left (by assumption)) hb1))))
            have hu1 : Below wi.heap.size wi w1 := undrew hb1
            have HF3 : Hid (Filled w1 wo.heap.size 51 2 nn j (fun j => anote (nt j) (Q j))) := Lib.hid (HFj.out.below hu1)
            have HQ3 : Hid (∀ l, l < j + 1 → Ptr 58 aloc w1 (nt l).lc (if l = j then q1 else Q l)) := Lib.hid (by
              intro l hl
              by_cases h : l = j
              · subst h
                rw [if_pos rfl, ← HNJ.out]
                exact hp1
              · rw [if_neg h]
                exact (HQj.out l (by omega)).keep fun p cs o => o.below hu1 o.lt)
            have HB3 : Hid (Below wo.heap.size wo w1) := Lib.hid (HBj.out.trans (hu1.mono HBj.out.size))
            clear hp1 hb1 hu1 hS hkr f0 f1 y0 y1
            go_wp2_with fail
            go_roundw
            case rel =>
              rw [chain2]
              refine ⟨j + 1, fun l => if l = j then q1 else Q l, by go_num, by omega, Lib.hid (Filled.set (F := fun l => anote (nt l) (if l = j then q1 else Q l)) (HF3.out.congr fun i hi => by simp only [if_neg (show i ≠ j by omega)]) hjl ?_ rfl), Lib.hid fun l hl => (HQ3.out l hl).keep fun p cs o => ?_, Lib.hid (Go.Proofs.Ytmjfdhgfpgeboad.Rws.below_setCells _ (Nat.le_refl _) _ _ _ HB3.out)⟩
              · simp only [if_true]
                rw [← HNJ.out]
                rfl
              · obtain ⟨cs', o', _⟩ := HF3.out
                exact Own.farCells (own_ne o o' (by decide)) _ _ _ o
            case measure => simp [intOf]; omega
          · obtain rfl : nn = j := by omega
            have y0 : decide ((nn : Int) < nn) = false := decide_eq_false (by omega)
            go_upto_region 12 with fail
            have wisize : wo.heap.size ≤ wi.heap.size := by omega
            have wilt : b < wi.heap.size := Nat.lt_of_lt_of_le hbl HBw.out.size
            have wine : b ≠ w.heap.size := by omega
            clear r11
            have hkr : Kr wi w.heap.size (k * 6) 6 wi := Kr.start (Filled.there (HF.out.own fun cs o => o.below HBj.out o.lt) hlt) (Nat.lt_of_lt_of_le HF.out.lt wisize)
            have hS := Lib.hid (show ∀ W, Kr wi w.heap.size (k * 6) 6 W → (fun W => Kr wi w.heap.size (k * 6) 6 W ∧ W.cell? ⟨b, off + k * 12, none⟩ = some (.string id) ∧ W.cell? ⟨b, off + k * 12 + 1, none⟩ = some (.string pl) ∧ W.cell? ⟨b, off + k * 12 + 2, none⟩ = some (.string tx) ∧ W.cell? ⟨b, off + k * 12 + 3, none⟩ = some (.bool false) ∧ W.cell? ⟨b, off + k * 12 + 4, none⟩ = some (.string fl) ∧ W.cell? ⟨b, off + k * 12 + 5, none⟩ = some (.string ns) ∧ W.cell? ⟨b, off + k * 12 + 6, none⟩ = some (.int .i64 ln) ∧ W.cell? ⟨b, off + k * 12 + 7, none⟩ = some (.int .i64 co) ∧ W.cell? ⟨b, off + k * 12 + 8, none⟩ = some (.int .i64 le) ∧ W.cell? ⟨b, off + k * 12 + 9, none⟩ = some (.string lt) ∧ W.cell? ⟨b, off + k * 12 + 10, none⟩ = some (.string sg)) W from fun W h => ⟨h, (h.cell ⟨b, off + k * 12, none⟩ wilt wine).trans ((HBw.out.cell (p := ⟨b, off + k * 12, none⟩) hbl).trans c0), (h.cell ⟨b, off + k * 12 + 1, none⟩ wilt wine).trans ((HBw.out.cell (p := ⟨b, off + k * 12 + 1, none⟩) hbl).trans c1), (h.cell ⟨b, off + k * 12 + 2, none⟩ wilt wine).trans ((HBw.out.cell (p := ⟨b, off + k * 12 + 2, none⟩) hbl).trans c2), (h.cell ⟨b, off + k * 12 + 3, none⟩ wilt wine).trans ((HBw.out.cell (p := ⟨b, off + k * 12 + 3, none⟩) hbl).trans c3), (h.cell ⟨b, off + k * 12 + 4, none⟩ wilt wine).trans ((HBw.out.cell (p := ⟨b, off + k * 12 + 4, none⟩) hbl).trans c4), (h.cell ⟨b, off + k * 12 + 5, none⟩ wilt wine).trans ((HBw.out.cell (p := ⟨b, off + k * 12 + 5, none⟩) hbl).trans c5), (h.cell ⟨b, off + k * 12 + 6, none⟩ wilt wine).trans ((HBw.out.cell (p := ⟨b, off + k * 12 + 6, none⟩) hbl).trans c6), (h.cell ⟨b, off + k * 12 + 7, none⟩ wilt wine).trans ((HBw.out.cell (p := ⟨b, off + k * 12 + 7, none⟩) hbl).trans c7), (h.cell ⟨b, off + k * 12 + 8, none⟩ wilt wine).trans ((HBw.out.cell (p := ⟨b, off + k * 12 + 8, none⟩) hbl).trans c8), (h.cell ⟨b, off + k * 12 + 9, none⟩ wilt wine).trans ((HBw.out.cell (p := ⟨b, off + k * 12 + 9, none⟩) hbl).trans c9), (h.cell ⟨b, off + k * 12 + 10, none⟩ wilt wine).trans ((HBw.out.cell (p := ⟨b, off + k * 12 + 10, none⟩) hbl).trans c10)⟩)
            go_region_held3 (fun W => Kr wi w.heap.size (k * 6) 6 W ∧ W.cell? ⟨b, off + k * 12, none⟩ = some (.string id) ∧ W.cell? ⟨b, off + k * 12 + 1, none⟩ = some (.string pl) ∧ W.cell? ⟨b, off + k * 12 + 2, none⟩ = some (.string tx) ∧ W.cell? ⟨b, off + k * 12 + 3, none⟩ = some (.bool false) ∧ W.cell? ⟨b, off + k * 12 + 4, none⟩ = some (.string fl) ∧ W.cell? ⟨b, off + k * 12 + 5, none⟩ = some (.string ns) ∧ W.cell? ⟨b, off + k * 12 + 6, none⟩ = some (.int .i64 ln) ∧ W.cell? ⟨b, off + k * 12 + 7, none⟩ = some (.int .i64 co) ∧ W.cell? ⟨b, off + k * 12 + 8, none⟩ = some (.int .i64 le) ∧ W.cell? ⟨b, off + k * 12 + 9, none⟩ = some (.string lt) ∧ W.cell? ⟨b, off + k * 12 + 10, none⟩ = some (.string sg))
              (first | (rw [chain6]; with_reducible exact hS.out _ (Kr.put (And.left (by assumption)) _)) | with_reducible exact hS.out _ hkr.drew | with_reducible exact hS.out _ (Kr.below (And.left (by assumption)) hb1b))
              (first
                | (go_at_call 13; refine (build13 ⟨false, fl, ns, ln, co, le, lt, sg⟩ _).mono ?_; rintro e w1b ⟨q1b, rfl, hp1b, hb1b⟩; obtain rfl : q1b = none := ptr_no hp1b; obtain ⟨x0, x1, x2, x3, x4, x5, y0, y1, y2, y3, y4, y5, f0, f1, f2, f3, f4, f5⟩ := there6 (Kr.there (Kr.below (And.left (by assumption)) hb1b))))
            have hu1 : Below wi.heap.size wi w1b := undrew hb1b
            have HF3 : Hid (Filled w1b w.heap.size 53 6 n k (fun i => arow (M i) (NA i) (NC i))) := Lib.hid ((HF.out.own fun cs o => o.below HBj.out o.lt).below hu1)
            have HA3 : Hid (∀ i, i < k + 1 → ANotes w1b (if i = k then (some ⟨wo.heap.size, 0, none⟩) else NA i) (M i).nn (M i).nt) := Lib.hid (by
              intro i hi
              have han : ANotes wi (if i = k then (some ⟨wo.heap.size, 0, none⟩) else NA i) (M i).nn (M i).nt := (by
                by_cases h : i = k
                · subst h
                  rw [if_pos rfl, ← HM.out]
                  exact anotes_of HFj.out HQj.out
                · rw [if_neg h]
                  exact (HW.out i (by omega)).keep fun p t cs o _ => o.below HBj.out o.lt)
              exact han.keep fun p t cs o _ => o.below hu1 o.lt)
            have HB3 : Hid (Below w.heap.size w w1b) := Lib.hid ((HBw.out.trans (hu1.mono (HBw.out.size))))
            clear hp1b hb1b hu1 hS hkr f0 f1 f2 f3 f4 f5 y0 y1 y2 y3 y4 y5
            go_wp2_with fail
            go_roundw
            case rel =>
              rw [chain6]
              refine ⟨k + 1, fun i => if i = k then (some ⟨wo.heap.size, 0, none⟩) else NA i, fun i => if i = k then nn else NC i, by go_num, by omega, Lib.hid (Filled.set (F := fun i => arow (M i) (if i = k then (some ⟨wo.heap.size, 0, none⟩) else NA i) (if i = k then nn else NC i)) (HF3.out.congr fun i hi => by simp only [if_neg (show i ≠ k by omega)]) hlt ?_ rfl), Lib.hid fun i hi => (HA3.out i hi).keep fun p t cs o ht => ?_, Lib.hid (Go.Proofs.Ytmjfdhgfpgeboad.Rws.below_setCells _ (Nat.le_refl _) _ _ _ HB3.out)⟩
              · simp only [if_true]
                rw [← HM.out]
                rfl
              · obtain ⟨cs', o', _⟩ := HF3.out
                exact Own.farCells (own_ne o o' ht) _ _ _ o
            case measure => simp [intOf]; omega
    · obtain rfl : n = k := by omega
      have z0 : decide ((n : Int) < n) = false := decide_eq_false (by omega)
      go_wp2_with fail
      go_ret
      exact ⟨_, rfl, ams_of HF.out HW.out, HB.out⟩
end Go.Proofs.Ytmjfdhgfpgeboad.Bm
