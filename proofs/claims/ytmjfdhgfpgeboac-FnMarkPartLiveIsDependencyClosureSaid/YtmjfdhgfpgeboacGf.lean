/-
  Proved: tsClosure ends, and its two lists then hold exactly the nodes that can be reached from the start. Conditions: those that each theorem names
  as its hypotheses, and no others.
-/
import Derived.Test.YtmjfdhgfpgeboacGe
import Derived.Test.YtmjfdhgfpgeboacGc
import Derived.Deep.LoopGhost
import Derived.BigRegion
namespace Go.Proofs.Ytmjfdhgfpgeboac.Gf
open Go.RowKit Go.PlainAid Mem Ho Rws Orw Dg Fs Ga Gb Gc Fil Gd Ge
set_option linter.unusedVariables false
set_option linter.unusedSimpArgs false
def flatW : List (Nat × Nat) → List Value
  | [] => []
  | d :: r => dcells d ++ flatW r
theorem flatW_length : ∀ ws : List (Nat × Nat), (flatW ws).length = ws.length * 2
  | [] => rfl
  | d :: r => by rw [flatW, List.length_append, flatW_length r, List.length_cons, Nat.add_mul]; simp [dcells]; omega
theorem flatW_app : ∀ (ws us : List (Nat × Nat)), flatW (ws ++ us) = flatW ws ++ flatW us
  | [], us => rfl
  | d :: r, us => by rw [List.cons_append, flatW, flatW, flatW_app r us, List.append_assoc]
theorem flatW_one (d : Nat × Nat) : flatW [d] = dcells d := by simp [flatW]
theorem flatW_snoc (ws : List (Nat × Nat)) (d : Nat × Nat) : flatW (ws ++ [d]) = flatW ws ++ dcells d := by rw [flatW_app, flatW_one]
theorem row_pop {W : World} {lo g m cap : Nat} {ws : List (Nat × Nat)} {d : Nat × Nat} (h : W.ownsRow lo 25 2 (.slice (some ⟨g, 0, none⟩) (m + 1) cap) (m + 1) (flatW (ws ++ [d]))) (hm : ws.length = m) : W.ownsRow lo 25 2 (.slice (some ⟨g, 0, none⟩) m cap) m (flatW ws) := by
  refine ⟨by rw [flatW_length, hm], ?_⟩
  rcases h.2 with ⟨h1, h2⟩ | ⟨g', cap', cur, h1, h2, h3, h4, h5, h6, h7⟩
  · omega
  · injection h1 with e1 e2 e3
    injection e1 with e1
    injection e1 with e1
    subst e1 e3
    refine .inr ⟨g, cap, cur, rfl, h2, h3, by omega, h5, h6, ?_⟩
    rw [flatW_snoc] at h7
    have h8 := congrArg (List.take (m * 2)) h7
    have h9 : List.take (m * 2) (flatW ws) = flatW ws := List.take_of_length_le (by rw [flatW_length]; omega)
    rw [List.take_take, Nat.min_eq_left (by omega), List.take_append_of_le_length (by rw [flatW_length]; omega), h9] at h8
    exact h8
theorem row_last {W : World} {lo g m cap : Nat} {ws : List (Nat × Nat)} {d : Nat × Nat} (h : W.ownsRow lo 25 2 (.slice (some ⟨g, 0, none⟩) (m + 1) cap) (m + 1) (flatW (ws ++ [d]))) (hm : ws.length = m) : W.cell? ⟨g, m * 2, none⟩ = some (.int .u32 (d.1 : Int)) ∧ W.cell? ⟨g, m * 2 + 1, none⟩ = some (.int .u32 (d.2 : Int)) := by
  have hc := h.cells (g := g) rfl
  have hl := flatW_length ws
  constructor
  · have := hc (m * 2) (.int .u32 (d.1 : Int)) (by rw [flatW_snoc, List.getElem?_append_right (by omega), hl, hm, Nat.sub_self]; rfl)
    rwa [add_none, Nat.zero_add] at this
  · have := hc (m * 2 + 1) (.int .u32 (d.2 : Int)) (by rw [flatW_snoc, List.getElem?_append_right (by omega), hl, hm, show m * 2 + 1 - m * 2 = 1 by omega]; rfl)
    rwa [add_none, Nat.zero_add] at this
theorem row_cap {W : World} {lo g n cap : Nat} {xs : List Value} (h : W.ownsRow lo 25 2 (.slice (some ⟨g, 0, none⟩) n cap) n xs) : n ≤ cap ∧ cap ≤ maxLen := by
  rcases h.2 with ⟨h1, h2⟩ | ⟨g', cap', cur, h1, h2, h3, h4, h5, _⟩
  · cases h1
  · injection h1 with e1 e2 e3
    subst e3
    exact ⟨h4, h5⟩
/-- the work list's nodes -/
def inW (ws : List (Nat × Nat)) (y : Dg.Node) : Prop := ∃ d, d ∈ ws ∧ y = .part d.1 d.2
def okW (n : Nat) (g : G) (ws : List (Nat × Nat)) : Prop := ∀ d, d ∈ ws → d.1 < n ∧ d.2 < g.np d.1
theorem _root_.Go.Proofs.Ytmjfdhgfpgeboac.Ge.Sp.keep {w w' : World} {lo fb pb n : Nat} {g : G} {qb : Nat → Nat} {l : L} (h : Sp w lo fb pb n g qb l) (k : ∀ p t cs, Own w p t cs → t ≠ 25 → Own w' p t cs) : Sp w' lo fb pb n g qb l := by
  obtain ⟨cs, o, hc⟩ := h.rows
  exact ⟨h.files.keep fun cs o => k _ _ _ o (by decide), ⟨cs, k _ _ _ o (by decide), hc⟩, fun i hi => (h.parts i hi).keep fun cs o => k _ _ _ o (by decide), h.ne, h.inj, h.low⟩
theorem _root_.Go.Proofs.Ytmjfdhgfpgeboac.Ge.Sp.below {w w' : World} {lo fb pb n : Nat} {g : G} {qb : Nat → Nat} {l : L} (h : Sp w lo fb pb n g qb l) (hb : Below w.heap.size w w') : Sp w' lo fb pb n g qb l := h.keep fun p t cs o _ => o.below hb o.lt
theorem _root_.Go.Proofs.Ytmjfdhgfpgeboac.Ge.Sp.cellP {w : World} {lo fb pb n : Nat} {g : G} {qb : Nat → Nat} {l : L} (h : Sp w lo fb pb n g qb l) {i : Nat} (hi : i < n) : w.cell? ⟨pb, i, none⟩ = some (.slice (some ⟨qb i, 0, none⟩) (g.np i) (g.np i)) := by
  obtain ⟨cs, o, hc⟩ := h.rows
  rw [o.cell]; exact hc i hi
/-- a part is marked -/
theorem _root_.Go.Proofs.Ytmjfdhgfpgeboac.Ge.Sp.markP {w : World} {lo fb pb n : Nat} {g : G} {qb : Nat → Nat} {l : L} (h : Sp w lo fb pb n g qb l) {a b : Nat} (ha : a < n) : Sp (w.setCell ⟨qb a, b, none⟩ (.bool true)) lo fb pb n g qb (Dg.mark l (.part a b)) := by
  obtain ⟨cs, o, hc⟩ := h.rows
  obtain ⟨cq, oq, _⟩ := h.parts a ha
  refine ⟨(h.files.far (p := ⟨qb a, b, none⟩) (fun e => h.ne a ha e.symm) _).congr fun i hi => by rw [mark_other (fun e => by cases e)], ⟨cs, o.far (p := ⟨qb a, b, none⟩) (own_ne o oq (by decide)) _, hc⟩, fun i hi => ?_, h.ne, h.inj, h.low⟩
  by_cases e : i = a
  · subst e
    refine ((h.parts i hi).set b true).congr fun j hj => ?_
    unfold Dg.mark
    by_cases e2 : j = b
    · subst e2; simp
    · simp [e2]
  · refine ((h.parts i hi).far (p := ⟨qb a, b, none⟩) (fun e2 => e (h.inj i a hi ha e2)) _).congr fun j hj => ?_
    rw [mark_other (fun e2 => by injection e2 with e3; exact e e3)]
/-- a file is marked -/
theorem _root_.Go.Proofs.Ytmjfdhgfpgeboac.Ge.Sp.markF {w : World} {lo fb pb n : Nat} {g : G} {qb : Nat → Nat} {l : L} (h : Sp w lo fb pb n g qb l) {a : Nat} : Sp (w.setCell ⟨fb, a, none⟩ (.bool true)) lo fb pb n g qb (Dg.mark l (.file a)) := by
  obtain ⟨cs, o, hc⟩ := h.rows
  obtain ⟨cf, of_, _⟩ := h.files
  refine ⟨(h.files.set a true).congr fun i hi => ?_, ⟨cs, o.far (p := ⟨fb, a, none⟩) (own_ne o of_ (by decide)) _, hc⟩, fun i hi => ?_, h.ne, h.inj, h.low⟩
  · unfold Dg.mark
    by_cases e2 : i = a
    · subst e2; simp
    · simp [e2]
  · exact ((h.parts i hi).far (p := ⟨fb, a, none⟩) (h.ne i hi) _).congr fun j hj => by rw [mark_other (fun e => by cases e)]
/-- a block that is not the row's stays through an append -/
theorem own_by {W W1 : World} {v : Value} {p : Nat} {t : TypeId} {cs : Array Value} (hg : W.grownBy W1 v.ownBlock) (hne : some p ≠ v.ownBlock) (ho : Own W p t cs) : Own W1 p t cs := (hg.block p ho.lt hne).trans ho
theorem app_ne {P : Program} {w0 W W1 : World} {lo n g cap : Nat} {ws : List Value} {t ty : TypeId} {i : TypeInfo} {ht : P.underlying t = some (.slice 25)} {hi : P.info? 25 = some i} (hsize : i.size = 2) {b D : Nat} {x y : Value} {cs2 : Array Value} {v' : Value}
    (hA : Apped w0 lo 25 2 (.slice (some ⟨g, 0, none⟩) n cap) n ws W v' 1 [x, y] W1) (ho : Own W b 25 #[x, y]) (h1 : ∀ u ∈ [x, y], u.oneCell' = true) (hr : (Builtin.append_ #[t, t] ty #[.slice (some ⟨g, 0, none⟩) n cap, .slice (some ⟨b, 0, none⟩) 1 1]).run P W = .ok v' W1)
    (hc1 : 1 ≤ cap) (hne : D ≠ g) (oD : Own W D 25 cs2) (hs2 : cs2.size = 2) : ∃ g' cap', v' = .slice (some ⟨g', 0, none⟩) (n + 1) cap' ∧ g' ≠ D ∧ 1 ≤ cap' ∧ Own W1 D 25 cs2 := by
  have oD1 : Own W1 D 25 cs2 := own_by hA.step (by simp [Value.ownBlock]; exact hne) oD
  rcases hA.row.2 with ⟨e1, e2⟩ | ⟨g', cap', cur, e1, e2, e3, e4, e5, e6, e7⟩
  · omega
  · refine ⟨g', cap', e1, fun e => ?_, by omega, oD1⟩
    by_cases hroom : n + 1 ≤ cap
    · rcases hA.row0.2 with ⟨f1, _⟩ | ⟨g0, cap0, cur0, f1, f2, f3, f4, f5, f6, f7⟩
      · cases f1
      · injection f1 with f1 _ fc
        injection f1 with f1
        injection f1 with f1
        subst f1 fc
        have hm := Nat.mul_le_mul_right 2 hroom
        have hr' := run_append_room (P := P) W t ty 25 i ht hi g n cap cur0 f3 ⟨b, 0, none⟩ 1 1 [x, y] (by rw [hsize]; rfl) (fun j u hj => by rw [add_none, Nat.zero_add]; exact (ho.cell j).trans (by simpa using hj)) h1 hroom (by rw [hsize]; simp; omega)
        rw [hr] at hr'
        injection hr' with hv _
        rw [e1] at hv
        injection hv with hv
        injection hv with hv
        injection hv with hv
        exact hne (e.symm.trans hv)
    · subst e
      unfold Own at oD1
      rw [e3] at oD1
      simp at oD1
      have := congrArg Array.size oD1
      omega
theorem okD_np {n : Nat} {F : Nat → Fl} {a b : Nat} (h : okD n F a b = true) : a < n ∧ b < (F a).np := by
  unfold okD at h
  simpa using h
def Closed (w : World) (lo fb pb n : Nat) (g : G) (qb : Nat → Nat) (x : Dg.Node) (e : Ending) (w' : World) : Prop :=
  e = .returned (.tuple #[]) ∧ ∃ l, Sp w' lo fb pb n g qb l ∧ (∀ y, l y = true ↔ Re g x y) ∧ Below lo w w'
theorem cntP_le (l : L) (f : Nat) : ∀ p, cntP l f p ≤ p
  | 0 => Nat.le_refl _
  | p + 1 => by
    have := cntP_le l f p
    unfold cntP
    split <;> omega
theorem cnt_le (n : Nat) (F : Nat → Fl) (l : L) : ∀ k, cnt (gr n F) l k ≤ k + sp F k
  | 0 => Nat.le_refl _
  | k + 1 => by
    have h1 := cnt_le n F l k
    have h2 := cntP_le l k (F k).np
    show cnt (gr n F) l k + cntP l k (F k).np + (if l (.file k) then 0 else 1) ≤ k + 1 + (sp F k + (F k).np + sd (F k) (F k).np)
    split <;> omega
theorem Wl_iff {g : G} {x : Dg.Node} {l : L} {w w' : Dg.Node → Prop} (h : Wl g x l w) (e : ∀ y, w y ↔ w' y) : Wl g x l w' :=
  ⟨h.at_.imp id (e _).1, fun y hy z hs => (h.closed y hy z hs).imp id (e _).1, h.reach, fun y hy => h.wreach y ((e y).2 hy)⟩
theorem inW_snoc (ws : List (Nat × Nat)) (d : Nat × Nat) (y : Dg.Node) : inW (ws ++ [d]) y ↔ inW ws y ∨ y = .part d.1 d.2 := by
  unfold inW
  constructor
  · rintro ⟨x, hx, rfl⟩
    rcases List.mem_append.1 hx with h | h
    · exact .inl ⟨x, h, rfl⟩
    · simp at h; subst h; exact .inr rfl
  · rintro (⟨x, hx, rfl⟩ | rfl)
    · exact ⟨x, by simp [hx], rfl⟩
    · exact ⟨d, by simp, rfl⟩
theorem row_pos {W : World} {lo n : Nat} {v : Value} {xs : List Value} (h : W.ownsRow lo 25 2 v (n + 1) xs) : ∃ g cap, v = .slice (some ⟨g, 0, none⟩) (n + 1) cap := by
  rcases h.2 with ⟨_, e⟩ | ⟨g, cap, cur, e, _⟩
  · omega
  · exact ⟨g, cap, e⟩
theorem iff_no {Q R : Prop} {P : Nat → Prop} {j : Nat} (h : ¬ P j) (e : R ↔ Q ∨ ∃ j', j' < j ∧ P j') : R ↔ Q ∨ ∃ j', j' < j + 1 ∧ P j' := by
  rw [e]
  constructor
  · rintro (h1 | ⟨j', h1, h2⟩)
    · exact .inl h1
    · exact .inr ⟨j', by omega, h2⟩
  · rintro (h1 | ⟨j', h1, h2⟩)
    · exact .inl h1
    · rcases Nat.lt_or_ge j' j with h3 | h3
      · exact .inr ⟨j', h3, h2⟩
      · obtain rfl : j' = j := by omega
        exact absurd h2 h
theorem iff_yes {Q R S : Prop} {P : Nat → Prop} {j : Nat} (h : S ↔ P j) (e : R ↔ Q ∨ ∃ j', j' < j ∧ P j') : (R ∨ S) ↔ Q ∨ ∃ j', j' < j + 1 ∧ P j' := by
  rw [e, h]
  constructor
  · rintro ((h1 | ⟨j', h1, h2⟩) | h1)
    · exact .inl h1
    · exact .inr ⟨j', by omega, h2⟩
    · exact .inr ⟨j, by omega, h1⟩
  · rintro (h1 | ⟨j', h1, h2⟩)
    · exact .inl (.inl h1)
    · rcases Nat.lt_or_ge j' j with h3 | h3
      · exact .inl (.inr ⟨j', h3, h2⟩)
      · obtain rfl : j' = j := by omega
        exact .inr h2
theorem row_far {W : World} {lo n p : Nat} {v u : Value} {xs : List Value} {t : TypeId} {cs : Array Value} (h : W.ownsRow lo 25 2 v n xs) (o : Own W p t cs) (ht : t ≠ 25) (i : Nat) : (W.setCell ⟨p, i, none⟩ u).ownsRow lo 25 2 v n xs := by
  refine ⟨h.1, h.2.imp id ?_⟩
  rintro ⟨g, cap, cur, e1, e2, e3, e4⟩
  exact ⟨g, cap, cur, e1, e2, (Below.heap_setCell W ⟨p, i, none⟩ u g (own_ne (show Own W g 25 cur from e3) o (fun e => ht e.symm))).trans e3, e4⟩
theorem mark_again {l : L} {x : Dg.Node} (h : l x = true) : Dg.mark l x = l := funext fun y => by
  unfold Dg.mark
  by_cases e : y = x
  · rw [if_pos e, e, h]
  · rw [if_neg e]
set_option maxRecDepth 100000 in
set_option maxHeartbeats 4000000 in
theorem closure10 (A : Option Addr) (n c : Nat) (F : Nat → Fl) (a b fb pb : Nat) (qb : Nat → Nat) (lo : Nat) (w0 w : World) (hs : Src w0 A n F) (hlo : w0.heap.size ≤ lo) (hb0 : Below w0.heap.size w0 w) (hsp : Sp w lo fb pb n (gr n F) qb (fun _ => false)) (hlo2 : lo ≤ w.heap.size) (hv : Valid n F) (hst : okD n F a b = true) (hsz : n + sp F n ≤ 1048576) :
    Calls Try.prog 10 #[.slice A n c, .agg #[.int .u32 (a : Int), .int .u32 (b : Int)], .slice (some ⟨fb, 0, none⟩) n n, .slice (some ⟨pb, 0, none⟩) n n] w (Closed w lo fb pb n (gr n F) qb (.part a b)) := by
  obtain ⟨ha, hb⟩ := okD_np hst
  obtain ⟨im, him, hzm, hsm, hbm⟩ := info_parts info25
  obtain ⟨sb, soff, rfl, hsbl, hsc⟩ := file_cell hs (by omega)
  have HS := Lib.hid hs
  have HB0 := Lib.hid hb0
  have HSP := Lib.hid hsp
  have HV := Lib.hid hv
  have HSC := Lib.hid hsc
  have HAB := Lib.hid (And.intro ha hb)
  clear hs hb0 hsp hv hst hsc ha hb
  go_enter Try.func10, Try.ntmps10
  go_upto_region 2 with fail
  generalize hWm : World.alloc _ _ = Wm
  have HBm : Hid (Below lo w Wm) := Lib.hid (by rw [← hWm]; exact ((Below.refl _ _).alloc hlo2 _).alloc (by simp; omega) _)
  have HRm : Hid (Wm.ownsRow w.heap.size 25 2 (.slice (some ⟨w.heap.size + 1, 0, none⟩) 1 1) 1 (flatW [(a, b)])) := Lib.hid (by
    refine ⟨rfl, .inr ⟨w.heap.size + 1, 1, #[.int .u32 (a : Int), .int .u32 (b : Int)], rfl, by omega, ?_, Nat.le_refl _, by unfold maxLen; omega, rfl, rfl⟩⟩
    rw [← hWm]
    have h := heap_alloc_new (w.alloc (.cells #[.int .u32 (a : Int), .int .u32 (b : Int)] 25)) (.cells #[.int .u32 (a : Int), .int .u32 (b : Int)] 25)
    rwa [show (w.alloc (Obj.cells #[Value.int .u32 (a : Int), .int .u32 (b : Int)] 25)).heap.size = w.heap.size + 1 by simp] at h)
  have HSm : Hid (Sp Wm lo fb pb n (gr n F) qb (fun _ => false)) := Lib.hid (HSP.out.keep fun p t cs o _ => by rw [← hWm]; exact (o.alloc _).alloc _)
  clear hWm
  go_loopg [8] 4398046511105 (fun N v wr => ∃ (g cap : Nat) (ws : List (Nat × Nat)) (l : L), v = .slice (some ⟨g, 0, none⟩) ws.length cap ∧ Hid (wr.ownsRow w.heap.size 25 2 (.slice (some ⟨g, 0, none⟩) ws.length cap) ws.length (flatW ws)) ∧ Hid (Sp wr lo fb pb n (gr n F) qb l) ∧ Hid (Wl (gr n F) (.part a b) l (inW ws)) ∧ Hid (okW n (gr n F) ws) ∧ Hid (cnt (gr n F) l n * 4194304 + ws.length ≤ N) ∧ Hid (N ≤ 4398046511105) ∧ Hid (Below lo w wr))
  case atStart =>
    exact ⟨_, _, [(a, b)], fun _ => false, rfl, HRm, HSm, Lib.hid ⟨.inr ⟨(a, b), by simp, rfl⟩, fun y h => (by cases h), fun y h => (by cases h), fun y h => by
      obtain ⟨d, hd, rfl⟩ := h
      simp at hd
      subst hd
      exact .refl⟩, Lib.hid (fun d hd => by simp at hd; subst hd; exact HAB.out), Lib.hid (by have := cnt_le n F (fun _ => false) n; simp only [List.length_cons, List.length_nil]; omega), Lib.hid (Nat.le_refl _), HBm⟩
  case round =>
    clear HBm HRm HSm HSP
    obtain ⟨g, cap, ws, l, rfl, HR, HP, HW, HO, HN, HN2, HB⟩ := hrel
    obtain ⟨wo, rfl⟩ : ∃ wo : World, wo = wr := ⟨_, rfl⟩
    rcases List.eq_nil_or_concat ws with rfl | ⟨ws0, d, rfl⟩
    · go_wp2_with fail
      go_end0
      exact ⟨rfl, l, HP.out, HW.out.whole (fun y h => by obtain ⟨d, hd, _⟩ := h; simp at hd), HB.out⟩
    · obtain ⟨m, hm⟩ : ∃ m, ws0.length = m := ⟨_, rfl⟩
      have hlen : (ws0 ++ [d]).length = m + 1 := by simp [hm]
      rw [List.concat_eq_append] at HR HW HO HN ⊢
      rw [hlen] at HR HN ⊢
      obtain ⟨x0, x1⟩ := row_last HR.out hm
      have hod := HO.out d (by simp)
      obtain ⟨da, de⟩ := d
      simp only [] at x0 x1 hod
      have hda := hod.1
      have hde := hod.2
      have q0 : (0 : Int) ≤ (m : Int) := by omega
      have q1 : (m : Int) < (m : Int) + 1 := by omega
      have hgl : g < wo.heap.size := (HR.out.lt g rfl).2
      have hmb : m ≤ 4398046511105 := by have := HN.out; have := HN2.out; omega
      have hcap := (row_cap HR.out).1
      have HMM := Lib.hid hm
      clear hod hm hlen
      go_upto_region 5 with fail
      generalize hWd : wo.alloc _ = Wd
      have hod : Own Wd wo.heap.size 25 #[.int .u32 (da : Int), .int .u32 (de : Int)] := by rw [← hWd]; exact Own.new _ _ _
      have hbd : Below wo.heap.size wo Wd := by rw [← hWd]; exact (Below.refl _ _).alloc (Nat.le_refl _) _
      have HRd := Lib.hid (row_pop (row_below (B := 0) HR.out hbd) HMM.out)
      have HPd := Lib.hid (HP.out.below hbd)
      have HBd := Lib.hid (HB.out.trans (hbd.mono (Nat.le_trans hlo2 (show w.heap.size ≤ wo.heap.size from (Nat.le_trans HB.out.size (Nat.le_refl _))))))
      have HOd := Lib.hid hod
      obtain ⟨np, hnp⟩ : ∃ np, np = (gr n F).np da := ⟨_, rfl⟩
      obtain ⟨qd, hqd⟩ : ∃ qd, qd = qb da := ⟨_, rfl⟩
      obtain ⟨lv, hlv⟩ : ∃ lv, lv = l (.part da de) := ⟨_, rfl⟩
      have e0 : Wd.cell? ⟨wo.heap.size, 0, none⟩ = some (.int .u32 (da : Int)) := (hod.cell 0).trans rfl
      have e1 : Wd.cell? ⟨wo.heap.size, 1, none⟩ = some (.int .u32 (de : Int)) := (hod.cell 1).trans rfl
      have pc : Wd.cell? ⟨pb, da, none⟩ = some (.slice (some ⟨qd, 0, none⟩) np np) := by rw [hnp, hqd]; exact HPd.out.cellP hda
      have lc : Wd.cell? ⟨qd, de, none⟩ = some (.bool lv) := by rw [hqd, hlv]; exact (HPd.out.parts da hda).cell hde
      have lf : Wd.frozen? ⟨qd, de, none⟩ = false := by rw [hqd]; exact (HPd.out.parts da hda).frozen de
      have d0 : (0 : Int) ≤ (da : Int) := by omega
      have d1 : (da : Int) < (n : Int) := by omega
      have d2 : (0 : Int) ≤ (de : Int) := by omega
      have d3 : (de : Int) < (np : Int) := by rw [hnp]; omega
      have HNP := Lib.hid hnp
      have HQD := Lib.hid hqd
      have HLV := Lib.hid hlv
      have HDA := Lib.hid (And.intro hda hde)
      have HGG : Hid (g ≠ wo.heap.size ∧ 1 ≤ cap) := Lib.hid ⟨by omega, by omega⟩
      clear hWd hod hbd x0 x1 hcap hnp hqd hlv hda hde
      go_quiet (fail)
      have HRq := Lib.hid (row_below (B := 0) HRd.out (below_drewN (Below.refl _ _) nq))
      have HPq := Lib.hid (HPd.out.below (below_drewN (Below.refl _ _) nq))
      have HBq := Lib.hid (below_drewN HBd.out nq)
      have HOq := Lib.hid (HOd.out.drewN nq)
      have e0' : (Wd.drewN nq).cell? ⟨wo.heap.size, 0, none⟩ = some (.int .u32 (da : Int)) := e0
      have e1' : (Wd.drewN nq).cell? ⟨wo.heap.size, 1, none⟩ = some (.int .u32 (de : Int)) := e1
      have pc' : (Wd.drewN nq).cell? ⟨pb, da, none⟩ = some (.slice (some ⟨qd, 0, none⟩) np np) := pc
      have lc' : (Wd.drewN nq).cell? ⟨qd, de, none⟩ = some (.bool lv) := lc
      have lf' : (Wd.drewN nq).frozen? ⟨qd, de, none⟩ = false := lf
      clear e0 e1 pc lc lf HRd HPd HBd HOd
      generalize Wd.drewN nq = Wq at *
      cases lv with
      | true =>
        go_wp2_with fail
        go_roundg (gk - 1)
        case measure => have := HN.out; omega
        case rel =>
          exact ⟨g, cap, ws0, l, by rw [HMM.out], by rw [HMM.out]; exact HRq, HPq, Lib.hid (Wl.skip (d := .part da de) (Wl_iff HW.out fun y => inW_snoc _ _ _) HLV.out.symm), Lib.hid (fun x hx => HO.out x (by simp [hx])), Lib.hid (by have := HN.out; rw [HMM.out]; omega), Lib.hid (by have := HN2.out; omega), HBq⟩
      | false =>
        go_upto_region 6 with fail
        go_region
        generalize hW6 : World.drew (World.setCell _ _ _) = W6
        have HP6 : Hid (Sp W6 lo fb pb n (gr n F) qb (Dg.mark l (.part da de))) := Lib.hid (by
          rw [← hW6, HQD.out]
          exact (HPq.out.markP HDA.out.1).below (below_drewN (Below.refl _ _) 1))
        obtain ⟨cq, oq, _⟩ := HPq.out.parts da HDA.out.1
        rw [← HQD.out] at oq
        have HR6 := Lib.hid (row_below (B := 0) (row_far (u := .bool true) HRq.out oq (by decide) de) (below_drewN (Below.refl _ _) 1))
        have HO6 : Hid (Own W6 wo.heap.size 25 #[.int .u32 (da : Int), .int .u32 (de : Int)]) := Lib.hid (by rw [← hW6]; exact (HOq.out.far (p := ⟨qd, de, none⟩) (own_ne HOq.out oq (by decide)) _).drew)
        have HB6 : Hid (Below lo w W6) := Lib.hid (by rw [← hW6]; exact below_drewN (HBq.out.setCell (p := ⟨qd, de, none⟩) (by have := HPq.out.low.2.2 da HDA.out.1; rw [HQD.out]; exact this) _) 1)
        rw [show (Wq.setCell ⟨qd, de, none⟩ (.bool true)).drewN 1 = W6 from hW6] at HR6
        obtain ⟨fl, hfl⟩ : ∃ fl, fl = l (.file da) := ⟨_, rfl⟩
        have a0 : W6.cell? ⟨wo.heap.size, 0, none⟩ = some (.int .u32 (da : Int)) := (HO6.out.cell 0).trans rfl
        have a1 : W6.cell? ⟨fb, da, none⟩ = some (.bool fl) := by rw [hfl]; exact (HP6.out.files.cell HDA.out.1).trans (by rw [mark_other (fun e => by cases e)])
        have a2 : W6.frozen? ⟨fb, da, none⟩ = false := HP6.out.files.frozen da
        have HFL := Lib.hid hfl
        clear hW6 oq e0' e1' pc' lc' lf' hfl
        obtain ⟨l3, hl3⟩ : ∃ l3, l3 = Dg.mark (Dg.mark l (.part da de)) (.file da) := ⟨_, rfl⟩
        have HL3 := Lib.hid hl3
        clear hl3
        obtain ⟨fm, hfm⟩ : ∃ fm, fm = F da := ⟨_, rfl⟩
        have hfc := HSC.out da HDA.out.1
        have hfw := HS.out.2 da HDA.out.1
        have hfs := sp_le F n da HDA.out.1
        have hnp2 : np = fm.np := by rw [hfm]; exact HNP.out
        rw [← hfm] at hfc hfw hfs
        obtain ⟨pA, np', pcp, pt⟩ := fm
        simp only [] at hfc hfs hnp2
        subst hnp2
        have HFM := Lib.hid hfm
        have HFW := Lib.hid hfw
        have HFC := Lib.hid hfc
        have hnpb : np ≤ 1048576 := by omega
        clear hfm hfw hfc hfs
        cases fl with
        | true =>
          have HP9 : Hid (Sp W6 lo fb pb n (gr n F) qb l3) := Lib.hid (by
            rw [HL3.out, mark_again (show Dg.mark l (.part da de) (.file da) = true by rw [mark_other (fun e => by cases e)]; exact HFL.out.symm)]
            exact HP6.out)
          have HI9 : Hid (∀ y, inW ws0 y ↔ inW ws0 y ∨ (l (.file da) = false ∧ ∃ j', j' < np ∧ (pt j').kp = true ∧ y = .part da j')) := Lib.hid (fun y => ⟨.inl, fun h => h.elim id (fun h => by rw [← HFL.out] at h; cases h.1)⟩)
          have HO9 : Hid (okW n (gr n F) ws0) := Lib.hid (fun x hx => HO.out x (by simp [hx]))
          have HW9 : Hid (ws0.length ≤ m + np) := Lib.hid (by have := HMM.out; omega)
          have HR9 : Hid (W6.ownsRow w.heap.size 25 2 (.slice (some ⟨g, 0, none⟩) ws0.length cap) ws0.length (flatW ws0)) := Lib.hid (by rw [HMM.out]; exact HR6.out)
          rw [← HMM.out] 
          have hdnp : de < np := by omega
          obtain ⟨pb3, poff3, hpA3, hpbl3, hpc3⟩ := part_cells HFW.out (show 0 < np by omega)
          simp only [] at hpA3
          subst hpA3
          have HW0t := Lib.hid (HB0.out.trans (HB6.out.mono hlo))
          obtain ⟨pp, hpp⟩ : ∃ pp, pp = pt de := ⟨_, rfl⟩
          have hpw := HFW.out.parts de hdnp
          have hk1 := (HW0t.out.cell (p := ⟨pb3, poff3 + de * 2 + 1, none⟩) hpbl3).trans (hpc3 de hdnp).2
          have hsd := sd_le (F da) (F da).np de (by rw [← HFM.out]; exact hdnp)
          have hsp := sp_le F n da HDA.out.1
          rw [← HFM.out] at hsd hsp
          simp only [] at hk1 hpw hsd hsp
          rw [← hpp] at hk1 hpw hsd
          obtain ⟨kpp, dA, nd, dc, dep⟩ := pp
          simp only [] at hk1 hsd
          have hndb : nd + np ≤ 1048576 := by omega
          have HPP := Lib.hid hpp
          have HPW := Lib.hid hpw
          have gnd : Hid ((gr n F).nd da de = nd) := Lib.hid (by show ((F da).pt de).nd = nd; rw [← HFM.out]; show (pt de).nd = nd; rw [← HPP.out])
          have gdep : Hid (∀ k, (gr n F).dep da de k = dep k) := Lib.hid (fun k => by show ((F da).pt de).dep k = dep k; rw [← HFM.out]; show (pt de).dep k = dep k; rw [← HPP.out])
          have gkp : Hid (∀ j, (gr n F).kp da j = (pt j).kp) := Lib.hid (fun j => by show ((F da).pt j).kp = _; rw [← HFM.out])
          have c0 : W6.cell? ⟨wo.heap.size, 0, none⟩ = some (.int .u32 (da : Int)) := (HO6.out.cell 0).trans rfl
          have c1 : W6.cell? ⟨wo.heap.size, 1, none⟩ = some (.int .u32 (de : Int)) := (HO6.out.cell 1).trans rfl
          have c2 : W6.cell? ⟨sb, soff + da, none⟩ = some (.slice (some ⟨pb3, poff3, none⟩) np pcp) := (HW0t.out.cell (p := ⟨sb, soff + da, none⟩) hsbl).trans HFC.out
          clear hpc3 hpp hpw hsd hsp
          go_upto_region 15 with fail
          go_quiet (fail)
          have HRt : Hid ((W6.drewN nq).ownsRow w.heap.size 25 2 (.slice (some ⟨g, 0, none⟩) ws0.length cap) ws0.length (flatW ws0)) := Lib.hid (row_below (B := 0) HR9.out (below_drewN (Below.refl _ _) nq))
          have HPt := Lib.hid (HP9.out.below (below_drewN (Below.refl _ _) nq))
          have HBt := Lib.hid (below_drewN HB6.out nq)
          clear c0 c1 c2 hk1 HW0t
          generalize W6.drewN nq = Wt at *
          go_wp2_with fail
          go_loopw [8, 13] (fun v i wr => ∃ (g9 cap9 : Nat) (ws9 : List (Nat × Nat)) (k : Nat), v = .slice (some ⟨g9, 0, none⟩) ws9.length cap9 ∧ i = .int .i64 k ∧ k ≤ nd ∧ Hid (wr.ownsRow w.heap.size 25 2 (.slice (some ⟨g9, 0, none⟩) ws9.length cap9) ws9.length (flatW ws9)) ∧ Hid (Sp wr lo fb pb n (gr n F) qb l3) ∧ Hid (∀ y, inW ws9 y ↔ inW ws0 y ∨ ∃ k', k' < k ∧ y = .part (dep k').1 (dep k').2) ∧ Hid (okW n (gr n F) ws9) ∧ Hid (ws9.length ≤ m + np + k) ∧ Hid (Below lo w wr)) (fun _ i _ => nd - (intOf i).toNat)
          case atStart => exact ⟨g, cap, ws0, 0, rfl, rfl, by omega, HRt, HPt, Lib.hid (fun y => ⟨.inl, fun h => h.elim id (fun ⟨j', h, _⟩ => absurd h (by omega))⟩), HO9, Lib.hid (by have := HW9.out; omega), HBt⟩
          case round =>
            clear HRt HPt HBt
            obtain ⟨g6, cap6, ws6, k, rfl, rfl, hk, HRk, HPk, HIk, HKk, HLk, HBk⟩ := hrel
            obtain ⟨wk, rfl⟩ : ∃ wk : World, wk = wr := ⟨_, rfl⟩
            have HW0k := Lib.hid (HB0.out.trans (HBk.out.mono hlo))
            have hwl6 : ws6.length ≤ 4399000000000 := by have := HLk.out; omega
            by_cases hkl : k < nd
            · obtain ⟨db, doff, hdA, hdbl, hdc⟩ := dep_cells HPW.out (show 0 < nd by omega)
              simp only [] at hdA
              subst hdA
              have hd0 := (HW0k.out.cell (p := ⟨db, doff + k * 2, none⟩) hdbl).trans (hdc k hkl).1
              have hd1 := (HW0k.out.cell (p := ⟨db, doff + k * 2 + 1, none⟩) hdbl).trans (hdc k hkl).2
              simp only [] at hd0 hd1
              obtain ⟨dx, hdx⟩ : ∃ dx, dx = dep k := ⟨_, rfl⟩
              rw [← hdx] at hd0 hd1
              have HDX := Lib.hid hdx
              have o0 : (0 : Int) ≤ (k : Int) := by omega
              have o1 : (k : Int) < (nd : Int) := by omega
              have hval : okD n F dx.1 dx.2 = true := by
                have h := HV.out da HDA.out.1 de (by rw [← HFM.out]; exact hdnp) k (by rw [← HFM.out]; show k < (pt de).nd; rw [← HPP.out]; exact hkl)
                rw [← HFM.out] at h
                simp only [] at h
                rw [← HPP.out] at h
                simp only [] at h
                rw [← HDX.out] at h
                exact h
              have HVAL := Lib.hid (okD_np hval)
              clear hdc hdx hval
              obtain ⟨v4, W4, ra, hA⟩ := Hold.app2 (P := Try.prog) (g := wk.heap.size) (cs := #[.int .u32 (dx.1 : Int), .int .u32 (dx.2 : Int)]) 104 104 im _ 8 Try.underlying104 him hzm hsm hbm rfl (by decide) (show ws6.length + 1 ≤ maxLen by unfold maxLen; omega) (by omega) ((Hold.start HRk.out HBk.out.size).alloc (.cells #[.int .u32 (dx.1 : Int), .int .u32 (dx.2 : Int)] 25)) (Own.new _ _ _) rfl (by simp [Value.oneCell'])
              have HRA := Lib.hid ra
              have HAA := Lib.hid hA
              clear ra hA
              go_wp2_with (first
                | (refine wpList_app rfl (.tmp 99) (.tmp 104) 104 rfl rfl _ _ _ (by simp [Act.eval, Act.put]) (by simp [Act.eval, Act.put]) HRA.out ?_)
                | fail)
              obtain ⟨g4, cap4, hv4⟩ := row_pos HAA.out.row
              subst hv4
              have HR4 : Hid (W4.ownsRow w.heap.size 25 2 (.slice (some ⟨g4, 0, none⟩) (ws6 ++ [dx]).length cap4) (ws6 ++ [dx]).length (flatW (ws6 ++ [dx]))) := Lib.hid (by
                have h := HAA.out.row
                rw [flatW_snoc, List.length_append]
                exact h)
              have HP4 : Hid (Sp W4 lo fb pb n (gr n F) qb l3) := Lib.hid (HPk.out.keep fun p t cs o ht => HAA.out.own (o.alloc _) ht)
              have HB4 : Hid (Below lo w W4) := Lib.hid (HBk.out.trans (HAA.out.below.mono hlo2))
              clear HRA HAA
              go_roundw
              case rel =>
                exact ⟨g4, cap4, ws6 ++ [dx], k + 1, by rw [List.length_append]; rfl, by go_num, by omega, HR4, HP4, Lib.hid (fun y => (inW_snoc _ _ _).trans (iff_yes (P := fun k' => y = .part (dep k').1 (dep k').2) (by rw [HDX.out]) (HIk.out y))), Lib.hid (fun x hx => by
                  rcases List.mem_append.1 hx with h | h
                  · exact HKk.out x h
                  · simp at h; subst h
                    exact HVAL.out), Lib.hid (by have := HLk.out; rw [List.length_append]; simp; omega), HB4⟩
              case measure => simp [intOf]; omega
            · obtain rfl : nd = k := by omega
              have y1 : decide ((nd : Int) < nd) = false := decide_eq_false (by omega)
              go_wp2_with fail
              have hcn : cnt (gr n F) l3 n + 1 ≤ cnt (gr n F) l n := by
                have h1 := cnt_markP (g := gr n F) (l := l) (f := da) (q := de) HLV.out.symm HDA.out.2 n HDA.out.1
                have h2 := cnt_mono (g := gr n F) (mark_mono (Dg.mark l (.part da de)) (.file da)) n
                rw [HL3.out]
                omega
              have hN8 : cnt (gr n F) l3 n * 4194304 + ws6.length < gk := by have := HN.out; have := HLk.out; omega
              have HN8 := Lib.hid hN8
              clear hN8 hcn
              go_roundg (cnt (gr n F) l3 n * 4194304 + ws6.length)
              case measure => exact HN8.out
              case rel =>
                have HN9 := Lib.hid (Nat.le_trans (Nat.le_of_lt HN8.out) HN2.out)
                have HNL : Hid (cnt (gr n F) l3 n * 4194304 + ws6.length ≤ cnt (gr n F) l3 n * 4194304 + ws6.length) := Lib.hid (Nat.le_refl _)
                refine ⟨g6, cap6, ws6, l3, rfl, HRk, HPk, Lib.hid ?_, HKk, HNL, HN9, HBk⟩
                rw [HL3.out]
                refine Wl.mark (w := inW ws0) (Wl_iff HW.out fun y => inW_snoc _ _ _) (fun y hy => (HIk.out y).2 (.inl ((HI9.out y).2 (.inl hy)))) (fun k hk => (HIk.out _).2 (.inr ⟨k, by rw [gnd.out] at hk; exact hk, by rw [gdep.out]⟩)) (fun hl j hj hkp => (HIk.out _).2 (.inl ((HI9.out _).2 (.inr ⟨hl, j, by rw [HNP.out]; exact hj, by rw [← gkp.out]; exact hkp, rfl⟩)))) (fun y hy => ?_)
                rcases (HIk.out y).1 hy with h | ⟨k', h1, rfl⟩
                · rcases (HI9.out y).1 h with h | ⟨_, j', h1, h2, rfl⟩
                  · exact .inl h
                  · exact .inr (.inr (.keep da j' (by rw [← HNP.out]; exact h1) (by rw [gkp.out]; exact h2)))
                · exact .inr (.inl (by rw [← gdep.out]; exact .dep da de k' (by rw [gnd.out]; exact h1)))
        | false =>
          go_upto_region 9 with fail
          generalize hW8 : World.setCell _ _ _ = W8
          obtain ⟨cf, of_, _⟩ := HP6.out.files
          have HP8 : Hid (Sp W8 lo fb pb n (gr n F) qb l3) := Lib.hid (by rw [← hW8, HL3.out]; exact HP6.out.markF)
          have HR8 : Hid (W8.ownsRow w.heap.size 25 2 (.slice (some ⟨g, 0, none⟩) m cap) m (flatW ws0)) := Lib.hid (by rw [← hW8]; exact row_far HR6.out of_ (by decide) da)
          have HO8 : Hid (Own W8 wo.heap.size 25 #[.int .u32 (da : Int), .int .u32 (de : Int)]) := Lib.hid (by rw [← hW8]; exact HO6.out.far (p := ⟨fb, da, none⟩) (own_ne HO6.out of_ (by decide)) _)
          have HB8 : Hid (Below lo w W8) := Lib.hid (by rw [← hW8]; exact HB6.out.setCell (p := ⟨fb, da, none⟩) HP6.out.low.1 _)
          have c0 : W8.cell? ⟨wo.heap.size, 0, none⟩ = some (.int .u32 (da : Int)) := (HO8.out.cell 0).trans rfl
          have HW08 := Lib.hid (HB0.out.trans (HB8.out.mono hlo))
          have c1 : W8.cell? ⟨sb, soff + da, none⟩ = some (.slice pA np pcp) := (HW08.out.cell (p := ⟨sb, soff + da, none⟩) hsbl).trans HFC.out
          clear hW8 of_ a0 a1 a2
          go_wp2_with fail
          clear c0 c1
          rw [← HMM.out]
          go_loopw [8, 11] (fun v i wr => ∃ (g cap : Nat) (ws1 : List (Nat × Nat)) (j : Nat), v = .slice (some ⟨g, 0, none⟩) ws1.length cap ∧ i = .int .i64 j ∧ j ≤ np ∧ Hid (wr.ownsRow w.heap.size 25 2 (.slice (some ⟨g, 0, none⟩) ws1.length cap) ws1.length (flatW ws1)) ∧ Hid (Sp wr lo fb pb n (gr n F) qb l3) ∧ Hid (Own wr wo.heap.size 25 #[.int .u32 (da : Int), .int .u32 (de : Int)]) ∧ Hid (g ≠ wo.heap.size ∧ 1 ≤ cap) ∧ Hid (∀ y, inW ws1 y ↔ inW ws0 y ∨ ∃ j', j' < j ∧ (pt j').kp = true ∧ y = .part da j') ∧ Hid (okW n (gr n F) ws1) ∧ Hid (ws1.length ≤ m + j) ∧ Hid (Below lo w wr)) (fun _ i _ => np - (intOf i).toNat)
          case atStart => exact ⟨g, cap, ws0, 0, rfl, rfl, by omega, by rw [HMM.out]; exact HR8, HP8, HO8, HGG, Lib.hid (fun y => ⟨.inl, fun h => h.elim id (fun ⟨j', h, _⟩ => absurd h (by omega))⟩), Lib.hid (fun x hx => HO.out x (by simp [hx])), Lib.hid (by rw [HMM.out]; omega), HB8⟩
          case round =>
            clear HR8 HP8 HO8 HGG HB8 HR6 HP6 HO6 HB6 HW08
            obtain ⟨g, cap, ws1, j, rfl, rfl, hj, HRj, HPj, HOj, HGj, HIj, HKj, HLj, HBj⟩ := hrel
            obtain ⟨wi, rfl⟩ : ∃ wi : World, wi = wr := ⟨_, rfl⟩
            have HW0j := Lib.hid (HB0.out.trans (HBj.out.mono hlo))
            have hwl : ws1.length ≤ 4399000000000 := by have := HLj.out; omega
            have c0 : wi.cell? ⟨wo.heap.size, 0, none⟩ = some (.int .u32 (da : Int)) := (HOj.out.cell 0).trans rfl
            by_cases hjl : j < np
            · obtain ⟨pb2, poff, hpA, hpbl, hpc⟩ := part_cells HFW.out (show 0 < np by omega)
              simp only [] at hpA
              subst hpA
              have hk0 := (HW0j.out.cell (p := ⟨pb2, poff + j * 2, none⟩) hpbl).trans (hpc j hjl).1
              simp only [] at hk0
              obtain ⟨kp, hkp⟩ : ∃ kp, kp = (pt j).kp := ⟨_, rfl⟩
              rw [← hkp] at hk0
              have HKP := Lib.hid hkp
              have p0 : (0 : Int) ≤ (j : Int) := by omega
              have p1 : (j : Int) < (np : Int) := by omega
              clear hpc hkp
              cases kp with
              | false =>
                go_wp2_with fail
                go_roundw
                case rel =>
                  exact ⟨g, cap, ws1, j + 1, rfl, by go_num, by omega, HRj, HPj, HOj, HGj, Lib.hid (fun y => iff_no (P := fun j' => (pt j').kp = true ∧ y = .part da j') (fun h => by rw [← HKP.out] at h; cases h.1) (HIj.out y)), HKj, Lib.hid (by have := HLj.out; omega), HBj⟩
                case measure => simp [intOf]; omega
              | true =>
                obtain ⟨v4, W4, ra, hA⟩ := Hold.app2 (P := Try.prog) (g := wi.heap.size) (cs := #[.int .u32 (da : Int), .int .u32 (j : Int)]) 104 104 im _ 8 Try.underlying104 him hzm hsm hbm rfl (by decide) (show ws1.length + 1 ≤ maxLen by unfold maxLen; omega) (by omega) ((Hold.start HRj.out HBj.out.size).alloc (.cells #[.int .u32 (da : Int), .int .u32 (j : Int)] 25)) (Own.new _ _ _) rfl (by simp [Value.oneCell'])
                have HRA := Lib.hid ra
                have HAA := Lib.hid hA
                clear ra hA
                go_wp2_with (first
                  | (refine wpList_app rfl (.tmp 74) (.tmp 80) 104 rfl rfl _ _ _ (by simp [Act.eval, Act.put]) (by simp [Act.eval, Act.put]) HRA.out ?_)
                  | fail)
                obtain ⟨g4, cap4, hv4, hg4, hc4, ho4⟩ := app_ne (ht := Try.underlying104) (hi := him) hsm HAA.out (Own.new _ _ _) (by simp [Value.oneCell']) HRA.out HGj.out.2 HGj.out.1.symm (HOj.out.alloc _) rfl
                subst hv4
                have HR4 : Hid (W4.ownsRow w.heap.size 25 2 (.slice (some ⟨g4, 0, none⟩) (ws1 ++ [(da, j)]).length cap4) (ws1 ++ [(da, j)]).length (flatW (ws1 ++ [(da, j)]))) := Lib.hid (by
                  have h := HAA.out.row
                  rw [flatW_snoc, List.length_append]
                  exact h)
                have HP4 : Hid (Sp W4 lo fb pb n (gr n F) qb l3) := Lib.hid (HPj.out.keep fun p t cs o ht => HAA.out.own (o.alloc _) ht)
                have HB4 : Hid (Below lo w W4) := Lib.hid (HBj.out.trans (HAA.out.below.mono hlo2))
                have HO4 := Lib.hid ho4
                have HG4 := Lib.hid (And.intro hg4 hc4)
                clear HRA HAA ho4 hg4 hc4
                go_roundw
                case rel =>
                  exact ⟨g4, cap4, ws1 ++ [(da, j)], j + 1, by rw [List.length_append]; rfl, by go_num, by omega, HR4, HP4, HO4, HG4, Lib.hid (fun y => (inW_snoc _ _ _).trans (iff_yes (P := fun j' => (pt j').kp = true ∧ y = .part da j') ⟨fun h => ⟨HKP.out.symm, h⟩, fun h => h.2⟩ (HIj.out y))), Lib.hid (fun x hx => by
                    rcases List.mem_append.1 hx with h | h
                    · exact HKj.out x h
                    · simp at h; subst h
                      exact ⟨HDA.out.1, by show j < (gr n F).np da; rw [← HNP.out]; exact hjl⟩), Lib.hid (by have := HLj.out; rw [List.length_append]; simp; omega), HB4⟩
                case measure => simp [intOf]; omega
            · obtain rfl : np = j := by omega
              have y0 : decide ((np : Int) < np) = false := decide_eq_false (by omega)
              have HI9 : Hid (∀ y, inW ws1 y ↔ inW ws0 y ∨ (l (.file da) = false ∧ ∃ j', j' < np ∧ (pt j').kp = true ∧ y = .part da j')) := Lib.hid (fun y => (HIj.out y).trans (or_congr Iff.rfl ⟨fun h => ⟨HFL.out.symm, h⟩, fun h => h.2⟩))
              clear c0
              have hdnp : de < np := by omega
              obtain ⟨pb3, poff3, hpA3, hpbl3, hpc3⟩ := part_cells HFW.out (show 0 < np by omega)
              simp only [] at hpA3
              subst hpA3
              have HW0t := Lib.hid (HB0.out.trans (HBj.out.mono hlo))
              obtain ⟨pp, hpp⟩ : ∃ pp, pp = pt de := ⟨_, rfl⟩
              have hpw := HFW.out.parts de hdnp
              have hk1 := (HW0t.out.cell (p := ⟨pb3, poff3 + de * 2 + 1, none⟩) hpbl3).trans (hpc3 de hdnp).2
              have hsd := sd_le (F da) (F da).np de (by rw [← HFM.out]; exact hdnp)
              have hsp := sp_le F n da HDA.out.1
              rw [← HFM.out] at hsd hsp
              simp only [] at hk1 hpw hsd hsp
              rw [← hpp] at hk1 hpw hsd
              obtain ⟨kpp, dA, nd, dc, dep⟩ := pp
              simp only [] at hk1 hsd
              have hndb : nd + np ≤ 1048576 := by omega
              have HPP := Lib.hid hpp
              have HPW := Lib.hid hpw
              have gnd : Hid ((gr n F).nd da de = nd) := Lib.hid (by show ((F da).pt de).nd = nd; rw [← HFM.out]; show (pt de).nd = nd; rw [← HPP.out])
              have gdep : Hid (∀ k, (gr n F).dep da de k = dep k) := Lib.hid (fun k => by show ((F da).pt de).dep k = dep k; rw [← HFM.out]; show (pt de).dep k = dep k; rw [← HPP.out])
              have gkp : Hid (∀ j, (gr n F).kp da j = (pt j).kp) := Lib.hid (fun j => by show ((F da).pt j).kp = _; rw [← HFM.out])
              have c0 : wi.cell? ⟨wo.heap.size, 0, none⟩ = some (.int .u32 (da : Int)) := (HOj.out.cell 0).trans rfl
              have c1 : wi.cell? ⟨wo.heap.size, 1, none⟩ = some (.int .u32 (de : Int)) := (HOj.out.cell 1).trans rfl
              have c2 : wi.cell? ⟨sb, soff + da, none⟩ = some (.slice (some ⟨pb3, poff3, none⟩) np pcp) := (HW0t.out.cell (p := ⟨sb, soff + da, none⟩) hsbl).trans HFC.out
              clear hpc3 hpp hpw hsd hsp
              go_upto_region 15 with fail
              go_quiet (fail)
              have HRt : Hid ((wi.drewN nq).ownsRow w.heap.size 25 2 (.slice (some ⟨g, 0, none⟩) ws1.length cap) ws1.length (flatW ws1)) := Lib.hid (row_below (B := 0) HRj.out (below_drewN (Below.refl _ _) nq))
              have HPt := Lib.hid (HPj.out.below (below_drewN (Below.refl _ _) nq))
              have HBt := Lib.hid (below_drewN HBj.out nq)
              clear c0 c1 c2 hk1 HW0t
              generalize wi.drewN nq = Wt at *
              go_wp2_with fail
              go_loopw [8, 13] (fun v i wr => ∃ (g9 cap9 : Nat) (ws9 : List (Nat × Nat)) (k : Nat), v = .slice (some ⟨g9, 0, none⟩) ws9.length cap9 ∧ i = .int .i64 k ∧ k ≤ nd ∧ Hid (wr.ownsRow w.heap.size 25 2 (.slice (some ⟨g9, 0, none⟩) ws9.length cap9) ws9.length (flatW ws9)) ∧ Hid (Sp wr lo fb pb n (gr n F) qb l3) ∧ Hid (∀ y, inW ws9 y ↔ inW ws1 y ∨ ∃ k', k' < k ∧ y = .part (dep k').1 (dep k').2) ∧ Hid (okW n (gr n F) ws9) ∧ Hid (ws9.length ≤ m + np + k) ∧ Hid (Below lo w wr)) (fun _ i _ => nd - (intOf i).toNat)
              case atStart => exact ⟨g, cap, ws1, 0, rfl, rfl, by omega, HRt, HPt, Lib.hid (fun y => ⟨.inl, fun h => h.elim id (fun ⟨j', h, _⟩ => absurd h (by omega))⟩), HKj, Lib.hid (by have := HLj.out; omega), HBt⟩
              case round =>
                clear HRt HPt HBt
                obtain ⟨g6, cap6, ws6, k, rfl, rfl, hk, HRk, HPk, HIk, HKk, HLk, HBk⟩ := hrel
                obtain ⟨wk, rfl⟩ : ∃ wk : World, wk = wr := ⟨_, rfl⟩
                have HW0k := Lib.hid (HB0.out.trans (HBk.out.mono hlo))
                have hwl6 : ws6.length ≤ 4399000000000 := by have := HLk.out; omega
                by_cases hkl : k < nd
                · obtain ⟨db, doff, hdA, hdbl, hdc⟩ := dep_cells HPW.out (show 0 < nd by omega)
                  simp only [] at hdA
                  subst hdA
                  have hd0 := (HW0k.out.cell (p := ⟨db, doff + k * 2, none⟩) hdbl).trans (hdc k hkl).1
                  have hd1 := (HW0k.out.cell (p := ⟨db, doff + k * 2 + 1, none⟩) hdbl).trans (hdc k hkl).2
                  simp only [] at hd0 hd1
                  obtain ⟨dx, hdx⟩ : ∃ dx, dx = dep k := ⟨_, rfl⟩
                  rw [← hdx] at hd0 hd1
                  have HDX := Lib.hid hdx
                  have o0 : (0 : Int) ≤ (k : Int) := by omega
                  have o1 : (k : Int) < (nd : Int) := by omega
                  have hval : okD n F dx.1 dx.2 = true := by
                    have h := HV.out da HDA.out.1 de (by rw [← HFM.out]; exact hdnp) k (by rw [← HFM.out]; show k < (pt de).nd; rw [← HPP.out]; exact hkl)
                    rw [← HFM.out] at h
                    simp only [] at h
                    rw [← HPP.out] at h
                    simp only [] at h
                    rw [← HDX.out] at h
                    exact h
                  have HVAL := Lib.hid (okD_np hval)
                  clear hdc hdx hval
                  obtain ⟨v4, W4, ra, hA⟩ := Hold.app2 (P := Try.prog) (g := wk.heap.size) (cs := #[.int .u32 (dx.1 : Int), .int .u32 (dx.2 : Int)]) 104 104 im _ 8 Try.underlying104 him hzm hsm hbm rfl (by decide) (show ws6.length + 1 ≤ maxLen by unfold maxLen; omega) (by omega) ((Hold.start HRk.out HBk.out.size).alloc (.cells #[.int .u32 (dx.1 : Int), .int .u32 (dx.2 : Int)] 25)) (Own.new _ _ _) rfl (by simp [Value.oneCell'])
                  have HRA := Lib.hid ra
                  have HAA := Lib.hid hA
                  clear ra hA
                  go_wp2_with (first
                    | (refine wpList_app rfl (.tmp 99) (.tmp 104) 104 rfl rfl _ _ _ (by simp [Act.eval, Act.put]) (by simp [Act.eval, Act.put]) HRA.out ?_)
                    | fail)
                  obtain ⟨g4, cap4, hv4⟩ := row_pos HAA.out.row
                  subst hv4
                  have HR4 : Hid (W4.ownsRow w.heap.size 25 2 (.slice (some ⟨g4, 0, none⟩) (ws6 ++ [dx]).length cap4) (ws6 ++ [dx]).length (flatW (ws6 ++ [dx]))) := Lib.hid (by
                    have h := HAA.out.row
                    rw [flatW_snoc, List.length_append]
                    exact h)
                  have HP4 : Hid (Sp W4 lo fb pb n (gr n F) qb l3) := Lib.hid (HPk.out.keep fun p t cs o ht => HAA.out.own (o.alloc _) ht)
                  have HB4 : Hid (Below lo w W4) := Lib.hid (HBk.out.trans (HAA.out.below.mono hlo2))
                  clear HRA HAA
                  go_roundw
                  case rel =>
                    exact ⟨g4, cap4, ws6 ++ [dx], k + 1, by rw [List.length_append]; rfl, by go_num, by omega, HR4, HP4, Lib.hid (fun y => (inW_snoc _ _ _).trans (iff_yes (P := fun k' => y = .part (dep k').1 (dep k').2) (by rw [HDX.out]) (HIk.out y))), Lib.hid (fun x hx => by
                      rcases List.mem_append.1 hx with h | h
                      · exact HKk.out x h
                      · simp at h; subst h
                        exact HVAL.out), Lib.hid (by have := HLk.out; rw [List.length_append]; simp; omega), HB4⟩
                  case measure => simp [intOf]; omega
                · obtain rfl : nd = k := by omega
                  have y1 : decide ((nd : Int) < nd) = false := decide_eq_false (by omega)
                  go_wp2_with fail
                  have hcn : cnt (gr n F) l3 n + 1 ≤ cnt (gr n F) l n := by
                    have h1 := cnt_markP (g := gr n F) (l := l) (f := da) (q := de) HLV.out.symm HDA.out.2 n HDA.out.1
                    have h2 := cnt_mono (g := gr n F) (mark_mono (Dg.mark l (.part da de)) (.file da)) n
                    rw [HL3.out]
                    omega
                  have hN8 : cnt (gr n F) l3 n * 4194304 + ws6.length < gk := by have := HN.out; have := HLk.out; omega
                  have HN8 := Lib.hid hN8
                  clear hN8 hcn
                  go_roundg (cnt (gr n F) l3 n * 4194304 + ws6.length)
                  case measure => exact HN8.out
                  case rel =>
                    have HN9 := Lib.hid (Nat.le_trans (Nat.le_of_lt HN8.out) HN2.out)
                    have HNL : Hid (cnt (gr n F) l3 n * 4194304 + ws6.length ≤ cnt (gr n F) l3 n * 4194304 + ws6.length) := Lib.hid (Nat.le_refl _)
                    refine ⟨g6, cap6, ws6, l3, rfl, HRk, HPk, Lib.hid ?_, HKk, HNL, HN9, HBk⟩
                    rw [HL3.out]
                    refine Wl.mark (w := inW ws0) (Wl_iff HW.out fun y => inW_snoc _ _ _) (fun y hy => (HIk.out y).2 (.inl ((HI9.out y).2 (.inl hy)))) (fun k hk => (HIk.out _).2 (.inr ⟨k, by rw [gnd.out] at hk; exact hk, by rw [gdep.out]⟩)) (fun hl j hj hkp => (HIk.out _).2 (.inl ((HI9.out _).2 (.inr ⟨hl, j, by rw [HNP.out]; exact hj, by rw [← gkp.out]; exact hkp, rfl⟩)))) (fun y hy => ?_)
                    rcases (HIk.out y).1 hy with h | ⟨k', h1, rfl⟩
                    · rcases (HI9.out y).1 h with h | ⟨_, j', h1, h2, rfl⟩
                      · exact .inl h
                      · exact .inr (.inr (.keep da j' (by rw [← HNP.out]; exact h1) (by rw [gkp.out]; exact h2)))
                    · exact .inr (.inl (by rw [← gdep.out]; exact .dep da de k' (by rw [gnd.out]; exact h1)))
end Go.Proofs.Ytmjfdhgfpgeboac.Gf
