/-
  Contract: mergeAdjacentLocalStmts. Conditions: sizes alone.
-/
import Derived.Test.YtmjfdhgfpgeboaaGe
import Derived.Test.YtmjfdhgfpgeboaaQt
import Derived.Deep.RegionLaw
namespace Go.Proofs.Ytmjfdhgfpgeboaa.Gf
open Go.RowKit Go.PlainAid Mem Sz Ga Gm Gb Gd Ge
set_option linter.unusedVariables false
set_option linter.unusedSimpArgs false

theorem as60 (W : World) (v : Value) : (Instr.typeAssert (.iface 60 v) 33 60 true).run Try.prog W = .ok (.tuple #[v, .bool true]) W := by
  simp [Instr.typeAssert, run_underlying Try.underlying60, go_sem, Result.andThen]
theorem as41 (W : World) (v : Value) : (Instr.typeAssert (.iface 41 v) 33 60 true).run Try.prog W = .ok (.tuple #[.pointer none, .bool false]) W := by
  simp [Instr.typeAssert, run_underlying Try.underlying60, go_sem, Result.andThen, Try.zeroValue60]

/-- append, by its run's equation, as one step of a region that draws. -/
theorem step_app {ops : Array Oper} {o : Oper} {a : Act} {w w1 : World} {K : Act → World → Prop} {Q : Exit → Act → World → Prop} {E : Prop}
    (hg : o.guard = none) (s x : Operand) (hop : o.op = Op.call { callee := Callee.builtin Builtin.append, args := #[s, x], argTypes := #[48, 48] }) (hty : o.type = 48)
    (vs vx v : Value) (hs : a.eval s = vs) (hx : a.eval x = vx) (hr : (Builtin.append_ #[48, 48] 48 #[vs, vx]).run Try.prog w = .ok v w1) (hK : K (a.put o.dst v) w1) :
    if Region.wanted o (yielded ops a.tmps) = true then Oper.wp Try.prog o a w K Q else E := by
  have hw : Region.wanted o (yielded ops a.tmps) = true := by simp [Region.wanted, hg]
  rw [if_pos hw]
  unfold Oper.wp
  simp [execOp, hop, resolve, invoke, builtin, hs, hx, hty, hr, Result.andThen]
  exact hK
theorem decls_one {W : World} {ql qh m : Nat} {ys : List Value} (h : Decls W ql qh m ys) (hl : ys.length = m * 4) : ∀ u ∈ ys, u.oneCell' = true := fun u hu => by
  obtain ⟨k, hk⟩ := List.getElem?_of_mem hu
  have hk4 : k < m * 4 := by rw [← hl]; exact (List.getElem?_eq_some_iff.1 hk).1
  obtain ⟨q, a, b, x, y, h1, h2, h3, h4, _⟩ := h (k / 4) (by omega)
  have h5 : k = k / 4 * 4 ∨ k = k / 4 * 4 + 1 ∨ k = k / 4 * 4 + 2 ∨ k = k / 4 * 4 + 3 := by omega
  rcases h5 with e | e | e | e <;> rw [e] at hk
  · rw [h1] at hk; cases hk; rfl
  · rw [h2] at hk; cases hk; rfl
  · rw [h3] at hk; cases hk; rfl
  · rw [h4] at hk; cases hk; rfl
theorem decls_append {W : World} {ql qh n m : Nat} {xs ys : List Value} (h : Decls W ql qh n xs) (k : Decls W ql qh m ys) (hl : xs.length = n * 4) : Decls W ql qh (n + m) (xs ++ ys) := fun j hj => by
  by_cases hn : j < n
  · obtain ⟨q, a, b, x, y, h1, h2, h3, h4, h5⟩ := h j hn
    refine ⟨q, a, b, x, y, ?_, ?_, ?_, ?_, h5⟩
    · rw [List.getElem?_append_left (by omega)]; exact h1
    · rw [List.getElem?_append_left (by omega)]; exact h2
    · rw [List.getElem?_append_left (by omega)]; exact h3
    · rw [List.getElem?_append_left (by omega)]; exact h4
  · obtain ⟨q, a, b, x, y, h1, h2, h3, h4, h5⟩ := k (j - n) (by omega)
    refine ⟨q, a, b, x, y, ?_, ?_, ?_, ?_, h5⟩
    · rw [List.getElem?_append_right (by omega), show j * 4 - xs.length = (j - n) * 4 by omega]; exact h1
    · rw [List.getElem?_append_right (by omega), show j * 4 + 1 - xs.length = (j - n) * 4 + 1 by omega]; exact h2
    · rw [List.getElem?_append_right (by omega), show j * 4 + 2 - xs.length = (j - n) * 4 + 2 by omega]; exact h3
    · rw [List.getElem?_append_right (by omega), show j * 4 + 3 - xs.length = (j - n) * 4 + 3 by omega]; exact h4

theorem base_up {W : World} {lo d n c : Nat} {xs : List Value} (h : W.ownsRow 0 59 4 (.slice (some ⟨d, 0, none⟩) n c) n xs) (hd : lo ≤ d) : W.ownsRow lo 59 4 (.slice (some ⟨d, 0, none⟩) n c) n xs := by
  obtain ⟨h1, h2⟩ := h
  refine ⟨h1, h2.imp id fun ⟨g, cap, cur, e, r1, r2⟩ => ⟨g, cap, cur, e, ?_, r2⟩⟩
  obtain ⟨rfl, rfl⟩ : d = g ∧ c = cap := by simpa using e
  exact hd
theorem base_down {W : World} {lo n : Nat} {v : Value} {xs : List Value} (h : W.ownsRow lo 59 4 v n xs) : W.ownsRow 0 59 4 v n xs :=
  ⟨h.1, h.2.imp id fun ⟨g, cap, cur, e, r1, r2⟩ => ⟨g, cap, cur, e, Nat.zero_le _, r2⟩⟩

/-- append(a, b...) at rows of declarations. -/
theorem app_run (W : World) {lo d n c d2 m c2 ql qh : Nat} {xs ys : List Value} (h : W.ownsRow 0 59 4 (.slice (some ⟨d, 0, none⟩) n c) n xs) (hd : lo ≤ d) (hlo : lo ≤ W.heap.size)
    (k : W.ownsRow 0 59 4 (.slice (some ⟨d2, 0, none⟩) m c2) m ys) (dy : Decls W ql qh m ys) (hb : n + m ≤ 1200000000000) :
    ∃ d' c' w1, (Builtin.append_ #[48, 48] 48 #[.slice (some ⟨d, 0, none⟩) n c, .slice (some ⟨d2, 0, none⟩) m c2]).run Try.prog W = .ok (.slice (some ⟨d', 0, none⟩) (n + m) c') w1 ∧
      w1.ownsRow 0 59 4 (.slice (some ⟨d', 0, none⟩) (n + m) c') (n + m) (xs ++ ys) ∧ W.grownBy w1 (some d) ∧ lo ≤ d' ∧ d' < w1.heap.size := by
  obtain ⟨i, hi, hz0, hz1, hz2⟩ := info_parts info59
  obtain ⟨v', w1, r1, r2, r3, r4⟩ := run_append_own (P := Try.prog) W lo 48 48 59 i (.agg declZ) 4 48 Try.underlying48 hi hz0 hz1 hz2 rfl (by omega) _ n xs (base_up h hd) ⟨d2, 0, none⟩ m c2 ys k.1 (k.cells rfl) (decls_one dy k.1) (by unfold maxLen; omega) (by omega) hlo
  rcases r2.2 with ⟨e, _⟩ | ⟨g, cap, cur, e, g1, g2, g3⟩
  · have := (r4.1 e).1
    cases this
  · refine ⟨g, cap, w1, by rw [r1, e], by rw [e] at r2; exact base_down r2, r3, g1, (Array.getElem?_eq_some_iff.1 g2).1⟩

/-- The clone under way: its block pc, its row d. -/
structure CS (wo wx : World) (pc : Nat) (kd : Int) (ex y : Bool) (d n c : Nat) (xs : List Value) (ql qh : Nat) : Prop where
  below : Below wo.heap.size wo wx
  own : Own wx pc 63 #[.slice (some ⟨d, 0, none⟩) n c, .int .u8 kd, .bool ex, .bool y]
  row : wx.ownsRow 0 59 4 (.slice (some ⟨d, 0, none⟩) n c) n xs
  decls : Decls wx ql qh n xs
  ge : wo.heap.size ≤ d ∧ d < wx.heap.size ∧ pc ≠ d ∧ wo.heap.size ≤ pc
theorem CS.app {wo wx : World} {pc : Nat} {kd : Int} {ex y : Bool} {d n c : Nat} {xs : List Value} {ql qh : Nat} (h : CS wo wx pc kd ex y d n c xs ql qh) (hq : qh ≤ wo.heap.size) {d2 m c2 : Nat} {ys : List Value}
    (k : wo.ownsRow 0 59 4 (.slice (some ⟨d2, 0, none⟩) m c2) m ys) (hd2 : d2 < wo.heap.size) (dy : Decls wo ql qh m ys) (hb : n + m ≤ 1200000000000) :
    ∃ d' c' wa, (Builtin.append_ #[48, 48] 48 #[.slice (some ⟨d, 0, none⟩) n c, .slice (some ⟨d2, 0, none⟩) m c2]).run Try.prog wx.drew = .ok (.slice (some ⟨d', 0, none⟩) (n + m) c') wa ∧
      Own wa pc 63 #[.slice (some ⟨d, 0, none⟩) n c, .int .u8 kd, .bool ex, .bool y] ∧ CS wo (wa.setCell ⟨pc, 0, none⟩ (.slice (some ⟨d', 0, none⟩) (n + m) c')) pc kd ex y d' (n + m) c' (xs ++ ys) ql qh := by
  obtain ⟨g1, g2, g3, g4⟩ := h.ge
  have hsz := h.below.size
  obtain ⟨d', c', wa, ra, oa, ga, da, db⟩ := app_run wx.drew (lo := wo.heap.size) (row_eqs (lo := 0) (hi := 0) h.row rfl) g1 (show wo.heap.size ≤ wx.heap.size from hsz)
    (row_eqs (lo := 0) (hi := 0) k (h.below.block d2 hd2)) (dy.eqs (Eqs.below (Below.drew h.below) hq)) hb
  have hpl := h.own.lt
  have hpa : Own wa pc 63 #[.slice (some ⟨d, 0, none⟩) n c, .int .u8 kd, .bool ex, .bool y] := (ga.block pc hpl (by simp; exact g3)).trans h.own
  have hne : pc ≠ d' := fun ee => by
    subst ee
    rcases oa.2 with ⟨h, _⟩ | ⟨g, cap, cur, h, _, hg, _⟩
    · cases h
    · obtain ⟨rfl, _⟩ : pc = g ∧ c' = cap := by simpa using h
      unfold Own at hpa
      rw [hpa] at hg
      simp at hg
  have hw : Below wo.heap.size wo (wa.setCell ⟨pc, 0, none⟩ (.slice (some ⟨d', 0, none⟩) (n + m) c')) := ((Below.drew h.below).grown ga hsz (fun x hx => by cases hx; exact g1)).setCell g4 _
  have hwx : Below wo.heap.size wo wx := h.below
  refine ⟨d', c', wa, ra, hpa, hw, hpa.set 0 _, row_eqs (lo := 0) (hi := 0) oa (Below.heap_setCell wa _ _ d' (by show d' ≠ pc; exact fun x => hne x.symm)), ?_, da, by simp; exact db, hne, g4⟩
  refine decls_append (h.decls.eqs fun b b1 b2 => ?_) (dy.eqs (Eqs.below hw hq)) h.row.1
  exact (hw.block b (by omega)).trans (hwx.block b (by omega)).symm
theorem new_keep {w : World} {b o : Nat} {v : Value} (h : w.cell? ⟨b, o, none⟩ = some v) (x : Obj) : (w.alloc x).cell? ⟨b, o, none⟩ = some v := by
  rw [World.cell?_alloc_lt _ _ _ (World.block_lt_of_cell? w _ h)]; exact h
def Merged (w : World) (rb n N c : Nat) (V0 : Nat → Value) (C0 : Nat → Cl) (l0 : Nat → Int) (e : Ending) (w' : World) : Prop :=
  ∃ e' did cs V C l B1, e = .returned (.slice (some ⟨rb, 0, none⟩) e' c) ∧ Mg w w' rb n N w.heap.size V0 C0 l0 n e' did cs V C l B1

set_option maxRecDepth 100000 in
set_option maxHeartbeats 8000000 in
theorem merge13 (m N c rb : Nat) (hm : m + 1 ≤ 65536) (hN : N ≤ 16711680) (hc : m ≤ c) (hcm : c + 1 ≤ maxLen) (cs0 : Array Value) (V0 : Nat → Value) (C0 : Nat → Cl) (l0 : Nat → Int) (w : World)
    (h0 : Own w rb 37 cs0) (hs : (m + 1) * 2 ≤ cs0.size) (hr : ∀ k, k < m + 1 → cs0[k * 2]? = some (V0 k) ∧ cs0[k * 2 + 1]? = some (.int .i32 (l0 k)))
    (he : ∀ k, k < m + 1 → Ent w (rb + 1) w.heap.size (rb + 1) w.heap.size N (V0 k) (C0 k)) :
    Calls Try.prog 13 #[.slice (some ⟨rb, 0, none⟩) (m + 1) (c + 1)] w (Merged w rb (m + 1) N (c + 1) V0 C0 l0) := by
  have hNn : N ≤ N * (m + 1) := by have := Nat.mul_le_mul_left N (show 1 ≤ m + 1 by omega); omega
  have HM : Hid (Mg w w rb (m + 1) N w.heap.size V0 C0 l0 1 1 false cs0 V0 C0 l0 w.heap.size) := Lib.hid
    { own := h0, size := hs, ei := ⟨by omega, by omega, by omega⟩, hd := fun k hk => hr k (by omega), tl := fun k _ hk => hr k hk, old := he, ok := fun k hk _ => (he k (by omega)).widen (Nat.le_refl _) (Nat.le_refl _) (Nat.le_refl _) (Nat.le_refl _) hNn,
      cur := (fun h => by cases h), last := fun _ => he 0 (by omega), b := ⟨h0.lt, Nat.le_refl _, Nat.le_refl _⟩, adj := fun k hk => absurd hk (by omega), same := fun _ => ⟨rfl, rfl, fun k _ => ⟨rfl, rfl, rfl⟩⟩, below := Below.refl _ _, fr := Eqs.refl _ _ _ }
  clear h0 hs hr he
  have z1 : ((m : Int) + 1 == 0) = false := by rw [beq_eq_false_iff_ne]; omega
  unfold maxLen at hcm
  by_cases hc0 : c = 0
  · subst hc0
    obtain rfl : m = 0 := by omega
    show Calls Try.prog 13 #[.slice (some ⟨rb, 0, none⟩) 1 1] w (Merged w rb 1 N 1 V0 C0 l0)
    clear z1 hNn hc hcm hm
    go_enter Try.func13, Try.ntmps13
    go_wp2
    go_loopw [4, 19] (fun y x wr => y = .int .i64 1 ∧ x = .int .i64 0 ∧ w = wr) (fun _ _ _ => 0)
    case atStart => exact ⟨rfl, rfl, rfl⟩
    case round =>
      obtain ⟨rfl, rfl, rfl⟩ := hrel
      go_wp2
      go_ret
      exact ⟨1, false, cs0, V0, C0, l0, w.heap.size, rfl, HM.out⟩
  have hq0 : (c == 0) = false := by rw [beq_eq_false_iff_ne]; exact hc0
  go_enter Try.func13, Try.ntmps13
  go_wp2
  go_loopw [3, 4, 19] (fun y x i wr => ∃ (t e : Nat) (did : Bool) (cs : Array Value) (V : Nat → Value) (C : Nat → Cl) (l : Nat → Int) (B1 : Nat), t ≤ m ∧ i = .int .i64 t ∧ x = .int .i64 ((e : Int) + 1) ∧ y = .bool did ∧ Hid (Mg w wr rb (m + 1) N w.heap.size V0 C0 l0 (t + 1) (e + 1) did cs V C l B1)) (fun _ _ i _ => m - (intOf i).toNat)
  case atStart => exact ⟨0, 0, false, cs0, V0, C0, l0, w.heap.size, by omega, rfl, rfl, rfl, HM⟩
  case round =>
    clear HM
    obtain ⟨t, e, did, cs, V, C, l, B1, ht, rfl, rfl, rfl, HM⟩ := hrel
    obtain ⟨wo, rfl⟩ : ∃ wo : World, wo = wr := ⟨_, rfl⟩
    obtain ⟨e1, e2, e3⟩ := HM.out.ei
    have he3 : e ≤ t := by omega
    clear e1 e2 e3
    by_cases hlt : t < m
    · have q0 : (0 : Int) ≤ (t : Int) := by omega
      have q1 : (t : Int) < (m : Int) := by omega
      have p0 : (0 : Int) ≤ (e : Int) := by omega
      have p1 : (e : Int) < (m : Int) + 1 := by omega
      have w0 : IntKind.i64.wrap ((e : Int) + 1 - 1) = (e : Int) := wrapQ (by omega) (by omega) (by omega)
      have w1 : ((e : Int) + 1 - 1) = (e : Int) := by omega
      have w2 : IntKind.i64.wrap (e : Int) = (e : Int) := wrapQ rfl (by omega) (by omega)
      have hi0 : wo.cell? ⟨rb, 2 + t * 2, none⟩ = some (V0 (t + 1)) := by rw [show 2 + t * 2 = (t + 1) * 2 by omega]; exact (HM.out.own.cell _).trans (HM.out.tl (t + 1) (Nat.le_refl _) (by omega)).1
      have hi1 : wo.cell? ⟨rb, 2 + t * 2 + 1, none⟩ = some (.int .i32 (l0 (t + 1))) := by rw [show 2 + t * 2 + 1 = (t + 1) * 2 + 1 by omega]; exact (HM.out.own.cell _).trans (HM.out.tl (t + 1) (Nat.le_refl _) (by omega)).2
      have hb0 : wo.cell? ⟨rb, e * 2, none⟩ = some (V e) := (HM.out.own.cell _).trans (HM.out.hd e (by omega)).1
      have hrl := HM.out.own.lt
      have htw := Two.of HM.out.own (o := (e + 1) * 2) (by have := HM.out.size; omega)
      have htb := Two.of HM.out.own (o := e * 2) (by have := HM.out.size; omega)
      have HO := Lib.hid (HM.out.old (t + 1) (by omega))
      have HL := Lib.hid (HM.out.all (by omega) e (by omega))
      have f41 := as41
      have f60 := as60
      obtain ⟨⟨x0, x1, t0, t1⟩, t2, t3⟩ := htw
      have k0 : ∀ o, (wo.alloc o).cell? ⟨rb, (e + 1) * 2, none⟩ = some x0 := fun o => new_keep t0 o
      have k1 : ∀ o, (wo.alloc o).cell? ⟨rb, (e + 1) * 2 + 1, none⟩ = some x1 := fun o => new_keep t1 o
      have k2 : ∀ o, (wo.alloc o).frozen? ⟨rb, (e + 1) * 2, none⟩ = false := fun o => ((Below.refl wo.heap.size wo).alloc (Nat.le_refl _) o).frozen (p := ⟨rb, (e + 1) * 2, none⟩) hrl |>.trans t2
      have k3 : ∀ o, (wo.alloc o).frozen? ⟨rb, (e + 1) * 2 + 1, none⟩ = false := fun o => ((Below.refl wo.heap.size wo).alloc (Nat.le_refl _) o).frozen (p := ⟨rb, (e + 1) * 2 + 1, none⟩) hrl |>.trans t3
      have kb : ∀ o, (wo.alloc o).cell? ⟨rb, e * 2, none⟩ = some (V e) := fun o => new_keep hb0 o
      have hne : rb ≠ wo.heap.size := by omega
      have r0 : (e : Int) + 1 < (m : Int) + 1 := by omega
      obtain ⟨hC2, p2, hp2, _⟩ | ⟨p2, kd2, ex2, hC2, hp2, hL2⟩ := HO.out
      · have hput := (HM.out.put (i := t + 1) (e := e + 1) (by omega) (fun x _ => by rw [hC2]; simp) (Below.refl wo.heap.size wo) rfl).grow ((Below.refl _ _).alloc (Nat.le_refl _) (.cells #[V0 (t + 1), .int .i32 (l0 (t + 1))] 37))
        have HE : Hid (∃ (t' e' : Nat) (did : Bool) (cs : Array Value) (V : Nat → Value) (C : Nat → Cl) (l : Nat → Int) (B1 : Nat), t' = t + 1 ∧ e' = e + 1 ∧ did = false ∧ Mg w (((wo.setCell ⟨rb, (e + 1) * 2, none⟩ (.iface 41 (.pointer (some ⟨p2, 0, none⟩)))).setCell ⟨rb, (e + 1) * 2 + 1, none⟩ (.int .i32 (l0 (t + 1)))).alloc (.cells #[.iface 41 (.pointer (some ⟨p2, 0, none⟩)), .int .i32 (l0 (t + 1))] 37)) rb (m + 1) N w.heap.size V0 C0 l0 (t' + 1) (e' + 1) did cs V C l B1) := Lib.hid ⟨t + 1, e + 1, false, _, _, _, _, _, rfl, rfl, rfl, by rw [← hp2]; exact hput⟩
        rw [hp2] at hi0
        clear hput HO HL HM
        go_wp2
        go_roundw
        case rel =>
          obtain ⟨t', e', did', cs', V', C', l', B', rfl, rfl, rfl, h⟩ := HE.out
          exact ⟨t + 1, e + 1, false, cs', V', C', l', B', by omega, by go_num, by go_num, rfl, Lib.hid h⟩
        case measure => simp [intOf]; omega
      · rw [hp2] at hi0
        obtain ⟨hC1, p1, hp1, _⟩ | ⟨p1, kd1, ex1, hC1, hp1, hL1⟩ := HL.out
        · rw [hp1] at kb hb0
          have hput := (HM.out.put (i := t + 1) (e := e + 1) (by omega) (fun x hx => by rw [show e + 1 - 1 = e by omega, hC1] at hx; cases hx) (Below.refl wo.heap.size wo) rfl).grow ((Below.refl _ _).alloc (Nat.le_refl _) (.cells #[V0 (t + 1), .int .i32 (l0 (t + 1))] 37))
          have HE : Hid (∃ (t' e' : Nat) (did : Bool) (cs : Array Value) (V : Nat → Value) (C : Nat → Cl) (l : Nat → Int) (B1 : Nat), t' = t + 1 ∧ e' = e + 1 ∧ did = false ∧ Mg w (((wo.setCell ⟨rb, (e + 1) * 2, none⟩ (.iface 60 (.pointer (some ⟨p2, 0, none⟩)))).setCell ⟨rb, (e + 1) * 2 + 1, none⟩ (.int .i32 (l0 (t + 1)))).alloc (.cells #[.iface 60 (.pointer (some ⟨p2, 0, none⟩)), .int .i32 (l0 (t + 1))] 37)) rb (m + 1) N w.heap.size V0 C0 l0 (t' + 1) (e' + 1) did cs V C l B1) := Lib.hid ⟨t + 1, e + 1, false, _, _, _, _, _, rfl, rfl, rfl, by rw [← hp2]; exact hput⟩
          clear hput HO HL HM
          go_wp2
          go_roundw
          case rel =>
            obtain ⟨t', e', did', cs', V', C', l', B', rfl, rfl, rfl, h⟩ := HE.out
            exact ⟨t + 1, e + 1, false, cs', V', C', l', B', by omega, by go_num, by go_num, rfl, Lib.hid h⟩
          case measure => simp [intOf]; omega
        · rw [hp1] at kb hb0
          obtain ⟨d1, n1, c1, xs1, y1, a1, a2, a3, a4, a5, a6, a7, a8, a9⟩ := hL1
          obtain ⟨d2, n2, c2, xs2, y2, b1, b2, b3, b4, b5, b6, b7, b8, b9⟩ := hL2
          have hwd := HM.out.b
          have g0 : ∀ o, (wo.alloc o).cell? ⟨p1, 0, none⟩ = some (.slice (some ⟨d1, 0, none⟩) n1 c1) := fun o => ((a7.alloc o).cell 0).trans rfl
          have g1 : ∀ o, (wo.alloc o).cell? ⟨p1, 1, none⟩ = some (.int .u8 kd1) := fun o => ((a7.alloc o).cell 1).trans rfl
          have g2 : ∀ o, (wo.alloc o).cell? ⟨p1, 2, none⟩ = some (.bool ex1) := fun o => ((a7.alloc o).cell 2).trans rfl
          have h0 : ∀ o, (wo.alloc o).cell? ⟨p2, 0, none⟩ = some (.slice (some ⟨d2, 0, none⟩) n2 c2) := fun o => ((b7.alloc o).cell 0).trans rfl
          have h1 : ∀ o, (wo.alloc o).cell? ⟨p2, 1, none⟩ = some (.int .u8 kd2) := fun o => ((b7.alloc o).cell 1).trans rfl
          have h2 : ∀ o, (wo.alloc o).cell? ⟨p2, 2, none⟩ = some (.bool ex2) := fun o => ((b7.alloc o).cell 2).trans rfl
          by_cases hkd : kd1 = kd2
          · have tk : (kd1 == kd2) = true := beq_iff_eq.2 hkd
            by_cases hex : ex1 = ex2
            · have tx : (ex1 == ex2) = true := beq_iff_eq.2 hex
              subst hkd hex
              cases did
              · have e7 := HM.out.last rfl
                rw [show e + 1 - 1 = e by omega] at e7
                obtain ⟨z5, _⟩ | ⟨p, kd, ex, e5, e6, e7⟩ := e7
                · rw [hC1] at z5; cases z5
                obtain rfl : p = p1 := by rw [hp1] at e6; simpa using e6.symm
                obtain ⟨rfl, rfl⟩ : kd = kd1 ∧ ex = ex1 := by rw [hC1] at e5; simpa using e5.symm
                clear g0 g1 g2 a1 a2 a3 a4 a5 a6 a7 a8 a9 e6
                obtain ⟨d1, n1, c1, xs1, y1, a1, a2, a3, a4, a5, a6, a7, a8, a9⟩ := e7
                have g0 : ∀ o, (wo.alloc o).cell? ⟨p, 0, none⟩ = some (.slice (some ⟨d1, 0, none⟩) n1 c1) := fun o => ((a7.alloc o).cell 0).trans rfl
                have g1 : ∀ o, (wo.alloc o).cell? ⟨p, 1, none⟩ = some (.int .u8 kd) := fun o => ((a7.alloc o).cell 1).trans rfl
                have g2 : ∀ o, (wo.alloc o).cell? ⟨p, 2, none⟩ = some (.bool ex) := fun o => ((a7.alloc o).cell 2).trans rfl
                have g3 : ∀ o, (wo.alloc o).cell? ⟨p, 3, none⟩ = some (.bool y1) := fun o => ((a7.alloc o).cell 3).trans rfl
                have j0 : ∀ o o', ((wo.alloc o).alloc o').cell? ⟨p, 0, none⟩ = some (.slice (some ⟨d1, 0, none⟩) n1 c1) := fun o o' => new_keep (g0 o) o'
                have j1 : ∀ o o', ((wo.alloc o).alloc o').cell? ⟨p2, 0, none⟩ = some (.slice (some ⟨d2, 0, none⟩) n2 c2) := fun o o' => new_keep (h0 o) o'
                have hbnd : n1 + n2 ≤ N * (t + 1 + 1) := by rw [Nat.mul_succ]; have := Nat.mul_le_mul_left N (show 1 ≤ t + 1 by omega); omega
                have hbig : N * (t + 1 + 1) ≤ 1200000000000 := by have := Nat.mul_le_mul hN (show t + 1 + 1 ≤ 65536 by omega); omega
                have hmk : ∀ W : World, (Instr.makeSlice 48 (.int .i64 0) (.int .i64 ((n1 : Int) + (n2 : Int)))).run Try.prog W = .ok (.slice (some ⟨W.heap.size, 0, none⟩) 0 (n1 + n2)) (W.alloc (.cells (madeCells declZ ((n1 + n2) * 4)) 59)) := fun W => by
                  have h := run_mkc (P := Try.prog) 48 59 (.agg declZ) declZ (by rfl) _ _ Try.underlying48 info59 0 (n1 + n2) (Nat.zero_le _) (by omega) (by omega) W
                  simpa using h
                have qs : IntKind.i64.wrap ((n1 : Int) + (n2 : Int)) = (n1 : Int) + (n2 : Int) := by simp [IntKind.wrap, IntKind.bits, IntKind.signed]; omega
                go_upto_region 12 with fail
                refine wp_region_quiet_lit (by kernel_rfl) (by kernel_rfl) (Qts.Qt.out ?_)
                repeat (refine Qts.Qt.step (fun K hK => ?_); go_simp; refine hK _ ?_; clear hK K)
                refine Qts.Qt.nil ?_
                intro _ hw'
                obtain ⟨nq, hw''⟩ := hw'
                subst hw''
                have hbx : Below wo.heap.size wo (((wo.alloc (.cells #[.iface 60 (.pointer (some ⟨p2, 0, none⟩)), .int .i32 (l0 (t + 1))] 37)).drewN nq).alloc (.cells #[.slice (some ⟨d1, 0, none⟩) n1 c1, .int .u8 kd, .bool ex, .bool y1] 63)) := (below_drewN ((Below.refl _ _).alloc (Nat.le_refl _) _) nq).alloc (by simp) _
                have hpc : Own (((wo.alloc (.cells #[.iface 60 (.pointer (some ⟨p2, 0, none⟩)), .int .i32 (l0 (t + 1))] 37)).drewN nq).alloc (.cells #[.slice (some ⟨d1, 0, none⟩) n1 c1, .int .u8 kd, .bool ex, .bool y1] 63)) (wo.heap.size + 1) 63 #[.slice (some ⟨d1, 0, none⟩) n1 c1, .int .u8 kd, .bool ex, .bool y1] := new_own (by simp)
                have hsz : (((wo.alloc (.cells #[.iface 60 (.pointer (some ⟨p2, 0, none⟩)), .int .i32 (l0 (t + 1))] 37)).drewN nq).alloc (.cells #[.slice (some ⟨d1, 0, none⟩) n1 c1, .int .u8 kd, .bool ex, .bool y1] 63)).heap.size = wo.heap.size + 2 := by simp
                clear HO HL hC1 f41 f60 hb0 kb hi0 hi1 k0 k1 k2 k3 t0 t1 t2 t3 htb
                go_upto_region 17 with fail
                clear g0 g1 g2 g3 j0 j1 h0 h1 h2
                generalize hW : (((wo.alloc (.cells #[.iface 60 (.pointer (some ⟨p2, 0, none⟩)), .int .i32 (l0 (t + 1))] 37)).drewN nq).alloc (.cells #[.slice (some ⟨d1, 0, none⟩) n1 c1, .int .u8 kd, .bool ex, .bool y1] 63)) = w16 at hbx hpc hsz ⊢
                have ho1 := a7.below hbx (Nat.lt_of_lt_of_le a2 (Nat.le_trans hwd.2.1 hwd.2.2))
                have ho2 := b7.below hbx (Nat.lt_of_lt_of_le b2 (Nat.le_trans hwd.2.1 hwd.2.2))
                have u0 : w16.cell? ⟨p, 0, none⟩ = some (.slice (some ⟨d1, 0, none⟩) n1 c1) := (ho1.cell 0).trans rfl
                have u1 : w16.cell? ⟨p2, 0, none⟩ = some (.slice (some ⟨d2, 0, none⟩) n2 c2) := (ho2.cell 0).trans rfl
                have u2 : w16.cell? ⟨wo.heap.size + 1, 0, none⟩ = some (.slice (some ⟨d1, 0, none⟩) n1 c1) := (hpc.cell 0).trans rfl
                have u3 := hpc.frozen 0
                have u4 : ∀ o, (w16.drew.alloc o).cell? ⟨wo.heap.size + 1, 0, none⟩ = some (.slice (some ⟨d1, 0, none⟩) n1 c1) := fun o => ((hpc.drew.alloc o).cell 0).trans rfl
                have u5 : ∀ o, (w16.drew.alloc o).frozen? ⟨wo.heap.size + 1, 0, none⟩ = false := fun o => (hpc.drew.alloc o).frozen 0
                have hpcl := hpc.lt
                have HSZ := Lib.hid hsz
                have HPC := Lib.hid hpc
                have HBX := Lib.hid hbx
                have HO1 := Lib.hid ho1
                have HO2 := Lib.hid ho2
                clear hsz hpc hbx ho1 ho2 hW
                go_region
                have hM := HPC.out.set 0 (.slice (some ⟨w16.heap.size, 0, none⟩) 0 (n1 + n2))
                have hCS : CS wo (((w16.setCell ⟨wo.heap.size + 1, 0, none⟩ (.slice (some ⟨w16.heap.size, 0, none⟩) 0 (n1 + n2))).alloc (.cells (madeCells declZ ((n1 + n2) * 4)) 59)).drew) (wo.heap.size + 1) kd ex y1 w16.heap.size 0 (n1 + n2) [] (rb + 1) w.heap.size :=
                  { below := Below.drew ((HBX.out.setCell (by show wo.heap.size ≤ wo.heap.size + 1; omega) _).alloc (by simp; exact HBX.out.size) _)
                    own := (hM.alloc _)
                    row := ⟨rfl, .inr ⟨w16.heap.size, n1 + n2, _, rfl, Nat.zero_le _, (new_own (by simp) : Own _ w16.heap.size 59 _), Nat.zero_le _, by unfold maxLen; omega, by simp [size_madeCells], by simp⟩⟩
                    decls := fun j hj => absurd hj (by omega)
                    ge := ⟨HBX.out.size, by show _ < ((w16.setCell _ _).alloc _).heap.size; simp, by omega, by omega⟩ }
                clear u0 u1 u2 u3 u4 u5 hM hmk
                go_upto_region 18 with fail
                generalize hW : (((w16.setCell ⟨wo.heap.size + 1, 0, none⟩ (.slice (some ⟨w16.heap.size, 0, none⟩) 0 (n1 + n2))).alloc (.cells (madeCells declZ ((n1 + n2) * 4)) 59)).drew) = w17 at hCS ⊢
                have hq2 := Nat.le_trans hwd.2.1 hwd.2.2
                obtain ⟨d3, c3, wa, ra, oa, hCS1⟩ := hCS.app hq2 a8 (Nat.lt_of_lt_of_le a4 hq2) a9 (by omega)
                have v0 : w17.cell? ⟨wo.heap.size + 1, 0, none⟩ = some (.slice (some ⟨w16.heap.size, 0, none⟩) 0 (n1 + n2)) := (hCS.own.cell 0).trans rfl
                have v1 : w17.cell? ⟨p, 0, none⟩ = some (.slice (some ⟨d1, 0, none⟩) n1 c1) := ((a7.below hCS.below (Nat.lt_of_lt_of_le a2 hq2)).cell 0).trans rfl
                have v2 : wa.cell? ⟨wo.heap.size + 1, 0, none⟩ = some (.slice (some ⟨w16.heap.size, 0, none⟩) 0 (n1 + n2)) := (oa.cell 0).trans rfl
                have v3 := oa.frozen 0
                simp only [Nat.zero_add, List.nil_append] at hCS1 ra
                have HC1 := Lib.hid hCS1
                clear hCS1 hCS oa hW
                go_region_law (refine step_app rfl (.tmp 91) (.tmp 95) rfl rfl _ _ _ (by simp [Act.eval, Act.put]) (by simp [Act.eval, Act.put]) ra ?_)
                all_goals
                  clear v0 v1 v2 v3 ra
                  go_upto_region 19 with fail
                  have hCS := HC1.out
                  clear HC1
                  generalize hW : (wa.setCell ⟨wo.heap.size + 1, 0, none⟩ (.slice (some ⟨d3, 0, none⟩) n1 c3)) = w18 at hCS ⊢
                  obtain ⟨d4, c4, wb, rb', ob, hCS2⟩ := hCS.app hq2 b8 (Nat.lt_of_lt_of_le b4 hq2) b9 (Nat.le_trans hbnd hbig)
                  have v0 : w18.cell? ⟨wo.heap.size + 1, 0, none⟩ = some (.slice (some ⟨d3, 0, none⟩) n1 c3) := (hCS.own.cell 0).trans rfl
                  have v1 : w18.cell? ⟨p2, 0, none⟩ = some (.slice (some ⟨d2, 0, none⟩) n2 c2) := ((b7.below hCS.below (Nat.lt_of_lt_of_le b2 hq2)).cell 0).trans rfl
                  have v2 : wb.cell? ⟨wo.heap.size + 1, 0, none⟩ = some (.slice (some ⟨d3, 0, none⟩) n1 c3) := (ob.cell 0).trans rfl
                  have v3 := ob.frozen 0
                  obtain ⟨y1', y2', y3', y4'⟩ := hCS2.ge
                  have hL' : LocS (wb.setCell ⟨wo.heap.size + 1, 0, none⟩ (.slice (some ⟨d4, 0, none⟩) (n1 + n2) c4)) wo.heap.size (wb.setCell ⟨wo.heap.size + 1, 0, none⟩ (.slice (some ⟨d4, 0, none⟩) (n1 + n2) c4)).heap.size (rb + 1) w.heap.size (N * (t + 1 + 1)) (wo.heap.size + 1) kd ex :=
                    ⟨d4, n1 + n2, c4, _, y1, y4', hCS2.own.lt, y1', y2', y3', hbnd, hCS2.own, hCS2.row, hCS2.decls⟩
                  have HCL := Lib.hid (HM.out.clone (i := t + 1) (by omega) (show C (e + 1 - 1) = some (kd, ex) from e5) hC2 hCS2.below rfl hL')
                  have hrow := HM.out.own.below hCS2.below hrl
                  have s0 : (wb.setCell ⟨wo.heap.size + 1, 0, none⟩ (.slice (some ⟨d4, 0, none⟩) (n1 + n2) c4)).cell? ⟨rb, e * 2, none⟩ = some (V e) := (hrow.cell _).trans (HM.out.hd e (by omega)).1
                  have s1 := hrow.frozen (e * 2)
                  clear hCS hCS2 ob hW hL' hrow y1' y2' y3' y4'
                  go_region_law (refine step_app rfl (.tmp 99) (.tmp 103) rfl rfl _ _ _ (by simp [Act.eval, Act.put]) (by simp [Act.eval, Act.put]) rb' ?_)
                  all_goals
                    clear v0 v1 v2 v3 rb'
                    go_wp2_with fail
                    go_roundw
                    case rel => exact ⟨t + 1, e, true, _, _, C, l, _, by omega, by go_num, rfl, rfl, HCL⟩
                    case measure => simp [intOf]; omega
              · obtain ⟨p, kd, ex, e5, e6, e7⟩ := HM.out.cur rfl
                rw [show e + 1 - 1 = e by omega] at e5 e6
                obtain rfl : p = p1 := by rw [hp1] at e6; simpa using e6.symm
                obtain ⟨rfl, rfl⟩ : kd = kd1 ∧ ex = ex1 := by rw [hC1] at e5; simpa using e5.symm
                clear g0 g1 g2 a1 a2 a3 a4 a5 a6 a7 a8 a9 e6
                obtain ⟨d1, n1, c1, xs1, y1, a1, a2, a3, a4, a5, a6, a7, a8, a9⟩ := e7
                have g0 : ∀ o, (wo.alloc o).cell? ⟨p, 0, none⟩ = some (.slice (some ⟨d1, 0, none⟩) n1 c1) := fun o => ((a7.alloc o).cell 0).trans rfl
                have g1 : ∀ o, (wo.alloc o).cell? ⟨p, 1, none⟩ = some (.int .u8 kd) := fun o => ((a7.alloc o).cell 1).trans rfl
                have g2 : ∀ o, (wo.alloc o).cell? ⟨p, 2, none⟩ = some (.bool ex) := fun o => ((a7.alloc o).cell 2).trans rfl
                have hbnd : n1 + n2 ≤ N * (t + 1 + 1) := by rw [Nat.mul_succ]; omega
                have hbig : N * (t + 1 + 1) ≤ 1200000000000 := by have := Nat.mul_le_mul hN (show t + 1 + 1 ≤ 65536 by omega); omega
                go_upto_region 12 with fail
                refine wp_region_quiet_lit (by kernel_rfl) (by kernel_rfl) (Qts.Qt.out ?_)
                repeat (refine Qts.Qt.step (fun K hK => ?_); go_simp; refine hK _ ?_; clear hK K)
                refine Qts.Qt.nil ?_
                intro _ hw'
                obtain ⟨nq, hw''⟩ := hw'
                subst hw''
                have hXd1 : ((((wo.alloc (.cells #[.iface 60 (.pointer (some ⟨p2, 0, none⟩)), .int .i32 (l0 (t + 1))] 37)).drewN (nq + 1))).heap[d1]? = wo.heap[d1]?) := Below.heap_alloc wo _ d1 a4
                have hXd2 : ((((wo.alloc (.cells #[.iface 60 (.pointer (some ⟨p2, 0, none⟩)), .int .i32 (l0 (t + 1))] 37)).drewN (nq + 1))).heap[d2]? = wo.heap[d2]?) := Below.heap_alloc wo _ d2 (by omega)
                have hbx : Below wo.heap.size wo (((wo.alloc (.cells #[.iface 60 (.pointer (some ⟨p2, 0, none⟩)), .int .i32 (l0 (t + 1))] 37)).drewN (nq + 1))) := below_drewN ((Below.refl _ _).alloc (Nat.le_refl _) _) (nq + 1)
                obtain ⟨d', c', wa, ra, oa, ga, da, db⟩ := app_run (((wo.alloc (.cells #[.iface 60 (.pointer (some ⟨p2, 0, none⟩)), .int .i32 (l0 (t + 1))] 37)).drewN (nq + 1))) (lo := B1) (row_eqs (lo := 0) (hi := 0) a8 hXd1) a3 (Nat.le_trans hwd.2.2 hbx.size) (row_eqs (lo := 0) (hi := 0) b8 hXd2) (b9.eqs (Eqs.below hbx (by omega))) (Nat.le_trans hbnd hbig)
                have hpa : Own wa p 63 #[.slice (some ⟨d1, 0, none⟩) n1 c1, .int .u8 kd, .bool ex, .bool y1] := (ga.block p (Nat.lt_of_lt_of_le a2 hbx.size) (by simp; exact a5)).trans (a7.below hbx a2)
                have ca : wa.cell? ⟨p, 0, none⟩ = some (.slice (some ⟨d1, 0, none⟩) n1 c1) := (hpa.cell 0).trans rfl
                have fa := hpa.frozen 0
                have hd'p : p ≠ d' := fun ee => by
                  subst ee
                  rcases oa.2 with ⟨h, _⟩ | ⟨g, cap, cur, h, _, hg, _⟩
                  · cases h
                  · obtain ⟨rfl, _⟩ : p = g ∧ c' = cap := by simpa using h
                    unfold Own at hpa
                    rw [hpa] at hg
                    simp at hg
                have hwa : Below B1 wo wa := (hbx.mono hwd.2.2).grown ga (Nat.le_trans hwd.2.2 hbx.size) (fun x hx => by cases hx; exact a3)
                have hw' : Below B1 wo (wa.setCell ⟨p, 0, none⟩ (.slice (some ⟨d', 0, none⟩) (n1 + n2) c')) := hwa.setCell a1 _
                have hL' : LocS (wa.setCell ⟨p, 0, none⟩ (.slice (some ⟨d', 0, none⟩) (n1 + n2) c')) B1 (wa.setCell ⟨p, 0, none⟩ (.slice (some ⟨d', 0, none⟩) (n1 + n2) c')).heap.size (rb + 1) w.heap.size (N * (t + 1 + 1)) p kd ex := by
                  have hz : (wa.setCell ⟨p, 0, none⟩ (.slice (some ⟨d', 0, none⟩) (n1 + n2) c')).heap.size = wa.heap.size := by simp
                  have hpl := hpa.lt
                  refine ⟨d', n1 + n2, c', xs1 ++ xs2, y1, a1, by rw [hz]; exact hpl, da, by rw [hz]; exact db, hd'p, hbnd, hpa.set 0 _, row_eqs (lo := 0) (hi := 0) oa (Below.heap_setCell wa _ _ d' (by show d' ≠ p; exact fun x => hd'p x.symm)), ?_⟩
                  exact decls_append (a9.eqs (Eqs.below hw' hwd.2.1)) (b9.eqs (Eqs.below hw' hwd.2.1)) a8.1
                have HMORE := Lib.hid (HM.out.more (i := t + 1) (by omega) (by rw [show e + 1 - 1 = e by omega]; exact hC1) hC2 (by rw [show e + 1 - 1 = e by omega]; exact hp1) hw' hL')
                clear HM HO HL hwd hw' hL' hwa hd'p oa ga a1 a2 a3 a4 a5 a6 a7 a8 a9 b1 b2 b3 b4 b5 b6 b7 b8 b9 hbx hXd1 hXd2 da db hpa hbnd hbig e5
                go_wp2_with fail
                go_region_law (refine step_app rfl (.tmp 66) (.tmp 70) rfl rfl _ _ _ (by simp [Act.eval, Act.put]) (by simp [Act.eval, Act.put]) ra ?_)
                all_goals
                  go_wp2_with fail
                  go_roundw
                  case rel => exact ⟨t + 1, e, true, cs, V, C, l, B1, by omega, by go_num, rfl, rfl, HMORE⟩
                  case measure => simp [intOf]; omega
            · have tx : (ex1 == ex2) = false := beq_eq_false_iff_ne.2 hex
              have HX := Lib.hid hex
              clear hkd hex
              go_upto_region 12 with fail
              refine wp_region_quiet_lit (by kernel_rfl) (by kernel_rfl) (Qts.Qt.out ?_)
              repeat (refine Qts.Qt.step (fun K hK => ?_); go_simp; refine hK _ ?_; clear hK K)
              refine Qts.Qt.nil ?_
              intro _ hw'
              obtain ⟨nq, hw''⟩ := hw'
              subst hw''
              have hput := (HM.out.put (i := t + 1) (e := e + 1) (by omega) (fun x hx hy => by rw [show e + 1 - 1 = e by omega, hC1] at hx; rw [hC2] at hy; rw [← hx] at hy; simp at hy; exact HX.out hy.2.symm) (below_drewN ((Below.refl _ _).alloc (Nat.le_refl _) (.cells #[V0 (t + 1), .int .i32 (l0 (t + 1))] 37)) nq) rfl)
              have HE : Hid (∃ (t' e' : Nat) (did : Bool) (cs : Array Value) (V : Nat → Value) (C : Nat → Cl) (l : Nat → Int) (B1 : Nat), t' = t + 1 ∧ e' = e + 1 ∧ did = false ∧ Mg w ((((wo.alloc (.cells #[.iface 60 (.pointer (some ⟨p2, 0, none⟩)), .int .i32 (l0 (t + 1))] 37)).drewN nq).setCell ⟨rb, (e + 1) * 2, none⟩ (.iface 60 (.pointer (some ⟨p2, 0, none⟩)))).setCell ⟨rb, (e + 1) * 2 + 1, none⟩ (.int .i32 (l0 (t + 1)))) rb (m + 1) N w.heap.size V0 C0 l0 (t' + 1) (e' + 1) did cs V C l B1) := Lib.hid ⟨t + 1, e + 1, false, _, _, _, _, _, rfl, rfl, rfl, by rw [← hp2]; exact hput⟩
              clear hput HO HL HM
              go_wp2
              go_roundw
              case rel =>
                obtain ⟨t', e', did', cs', V', C', l', B', rfl, rfl, rfl, h⟩ := HE.out
                exact ⟨t + 1, e + 1, false, cs', V', C', l', B', by omega, by go_num, by go_num, rfl, Lib.hid h⟩
              case measure => simp [intOf]; omega
          · have tk : (kd1 == kd2) = false := beq_eq_false_iff_ne.2 hkd
            have HX := Lib.hid hkd
            clear hkd
            go_upto_region 12 with fail
            refine wp_region_quiet_lit (by kernel_rfl) (by kernel_rfl) (Qts.Qt.out ?_)
            repeat (refine Qts.Qt.step (fun K hK => ?_); go_simp; refine hK _ ?_; clear hK K)
            refine Qts.Qt.nil ?_
            intro _ hw'
            obtain ⟨nq, hw''⟩ := hw'
            subst hw''
            have hput := (HM.out.put (i := t + 1) (e := e + 1) (by omega) (fun x hx hy => by rw [show e + 1 - 1 = e by omega, hC1] at hx; rw [hC2] at hy; rw [← hx] at hy; simp at hy; exact HX.out hy.1.symm) (below_drewN ((Below.refl _ _).alloc (Nat.le_refl _) (.cells #[V0 (t + 1), .int .i32 (l0 (t + 1))] 37)) nq) rfl)
            have HE : Hid (∃ (t' e' : Nat) (did : Bool) (cs : Array Value) (V : Nat → Value) (C : Nat → Cl) (l : Nat → Int) (B1 : Nat), t' = t + 1 ∧ e' = e + 1 ∧ did = false ∧ Mg w ((((wo.alloc (.cells #[.iface 60 (.pointer (some ⟨p2, 0, none⟩)), .int .i32 (l0 (t + 1))] 37)).drewN nq).setCell ⟨rb, (e + 1) * 2, none⟩ (.iface 60 (.pointer (some ⟨p2, 0, none⟩)))).setCell ⟨rb, (e + 1) * 2 + 1, none⟩ (.int .i32 (l0 (t + 1)))) rb (m + 1) N w.heap.size V0 C0 l0 (t' + 1) (e' + 1) did cs V C l B1) := Lib.hid ⟨t + 1, e + 1, false, _, _, _, _, _, rfl, rfl, rfl, by rw [← hp2]; exact hput⟩
            clear hput HO HL HM
            go_wp2
            go_roundw
            case rel =>
              obtain ⟨t', e', did', cs', V', C', l', B', rfl, rfl, rfl, h⟩ := HE.out
              exact ⟨t + 1, e + 1, false, cs', V', C', l', B', by omega, by go_num, by go_num, rfl, Lib.hid h⟩
            case measure => simp [intOf]; omega
    · have z0 : decide (t < m) = false := decide_eq_false hlt
      obtain rfl : t = m := by omega
      have z2 : decide ((e : Int) + 1 ≤ (c : Int) + 1) = true := decide_eq_true (by omega)
      go_wp2
      go_ret
      exact ⟨e + 1, did, cs, V, C, l, B1, rfl, HM.out⟩
end Go.Proofs.Ytmjfdhgfpgeboaa.Gf
