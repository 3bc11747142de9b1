/-
  Words for a row of structs that append makes: held from a world on, while other blocks come and go; append as one step of a region. Conditions: none.
-/
import Derived.Test.YtmjfdhgfpgeboacMem
import Derived.Laws.AppendOwn
import Derived.PlainAid
namespace Go.Proofs.Ytmjfdhgfpgeboac.Ho
open Go.RowKit Go.PlainAid Mem
set_option linter.unusedVariables false

theorem Below.ofGrown {B : Nat} {w0 w w' : World} {row : Option Nat} (h : Below B w0 w) (hg : w.grownBy w' row) (hs : B ≤ w.heap.size) (hr : ∀ k, row = some k → B ≤ k) : Below B w0 w' :=
  ⟨hg.os.trans h.os, hg.tape.trans h.tape, hg.output.trans h.output, Nat.le_trans h.size hg.size, fun b hb => (hg.block b (by omega) (fun e => by have := hr b e.symm; omega)).trans (h.block b hb)⟩
theorem grown_of_below {w w' : World} (h : Below w.heap.size w w') (row : Option Nat) : w.grownBy w' row := ⟨h.os, h.tape, h.output, h.size, fun k hk _ => h.block k hk⟩
theorem grown_refl (w : World) (row : Option Nat) : w.grownBy w row := ⟨rfl, rfl, rfl, Nat.le_refl _, fun _ _ _ => rfl⟩
theorem grown_trans {w w1 w2 : World} {row : Option Nat} (h : w.grownBy w1 row) (k : w1.grownBy w2 row) : w.grownBy w2 row :=
  ⟨k.os.trans h.os, k.tape.trans h.tape, k.output.trans h.output, Nat.le_trans h.size k.size, fun b hb he => (k.block b (Nat.lt_of_lt_of_le hb h.size) he).trans (h.block b hb he)⟩

section
variable {P : Program}
/-- append to an owned row: the old row, too, is there still. -/
theorem app_old (w : World) (base : Nat) (t ty e : TypeId) (i : TypeInfo) (z : Value) (size bytes : Nat) (ht : P.underlying t = some (.slice e)) (hi : P.info? e = some i) (hz : i.zero = some z)
    (hsize : i.size = size) (hby : i.bytes = bytes) (hzs : z.cells.size = size) (hsz : 0 < size)
    (v : Value) (n : Nat) (xs : List Value) (hown : w.ownsRow base e size v n xs)
    (a : Addr) (m c : Nat) (news : List Value) (hl : news.length = m * size) (hnews : ∀ j u, news[j]? = some u → w.cell? (a.add j) = some u) (h1 : ∀ u ∈ news, u.oneCell' = true)
    (h63 : n + m ≤ maxLen) (hbytes : (n + m) * bytes ≤ 140737488355328) (hbase : base ≤ w.heap.size) :
    ∃ v' w', (Builtin.append_ #[t, t] ty #[v, .slice (some a) m c]).run P w = .ok v' w' ∧ w'.ownsRow base e size v' (n + m) (xs ++ news) ∧ w'.ownsRow base e size v n xs ∧ w.grownBy w' v.ownBlock ∧
      (v' = .slice none 0 0 ↔ v = .slice none 0 0 ∧ m = 0) := by
  obtain ⟨v', w', hr, h2, h3, h4⟩ := run_append_own (P := P) w base t ty e i z size bytes ht hi hz hsize hby hzs hsz v n xs hown a m c news hl hnews h1 h63 hbytes hbase
  refine ⟨v', w', hr, h2, ?_, h3, h4⟩
  rcases hown.2 with ⟨rfl, rfl⟩ | ⟨g, cap, cur, rfl, hbg, hg, hnc, hcm, hcs, htake⟩
  · exact ⟨hown.1, .inl ⟨rfl, rfl⟩⟩
  · by_cases hroom : n + m ≤ cap
    · have hnm := Nat.add_mul n m size
      have hle := Nat.mul_le_mul_right size hroom
      have hfit : n * i.size + news.length ≤ cur.size := by rw [hsize]; omega
      have hr' := run_append_room (P := P) w t ty e i ht hi g n cap cur hg a m c news (by rw [hsize]; exact hl) hnews h1 hroom hfit
      rw [hr] at hr'
      injection hr' with _ hw
      subst hw
      refine ⟨hown.1, .inr ⟨g, cap, _, rfl, hbg, setRow_heap w g cur _ e _ hg, hnc, hcm, ?_, ?_⟩⟩
      · simp only [List.size_toArray, List.length_append, List.length_take, List.length_drop, Array.length_toList]
        omega
      · rw [hsize, htake, List.append_assoc]
        have hx := hown.1
        show List.take (n * size) (xs ++ _) = xs
        rw [← hx, List.take_left]
    · have holds : ∀ j u, xs[j]? = some u → w.cell? ((⟨g, 0, none⟩ : Addr).add j) = some u := hown.cells (g := g) rfl
      have hb2 : (n + m) * i.bytes ≤ 140737488355328 := by rw [hby]; exact hbytes
      have hr' := run_append_grow (P := P) w t ty e i z ht hi hz ⟨g, 0, none⟩ n cap xs (by rw [hsize]; exact hown.1) holds a m c news (by rw [hsize]; exact hl) hnews (by omega) (by unfold maxLen at h63; omega) (growslice_fits (by omega) hb2)
      rw [hr] at hr'
      injection hr' with _ hw
      subst hw
      refine ⟨hown.1, .inr ⟨g, cap, cur, rfl, hbg, ?_, hnc, hcm, hcs, htake⟩⟩
      exact (heap_alloc_old w.drew _ (Array.getElem?_eq_some_iff.1 hg).1).trans hg
end

/-- The row v (n elements, cells xs), owned in w0 and in W; W is w0 but for the row's block and new blocks. -/
structure Hold (w0 : World) (lo : Nat) (e : TypeId) (sz : Nat) (v : Value) (n : Nat) (xs : List Value) (W : World) : Prop where
  row0 : w0.ownsRow lo e sz v n xs
  row : W.ownsRow lo e sz v n xs
  grown : w0.grownBy W v.ownBlock
  base : lo ≤ w0.heap.size

section
variable {w0 W W1 : World} {lo sz n : Nat} {e : TypeId} {v : Value} {xs : List Value}
theorem Hold.start (h : W.ownsRow lo e sz v n xs) (hb : lo ≤ W.heap.size) : Hold W lo e sz v n xs W := ⟨h, h, grown_refl _ _, hb⟩
theorem row_below {B : Nat} (h : W.ownsRow lo e sz v n xs) (hb : Below W.heap.size W W1) : W1.ownsRow lo e sz v n xs :=
  h.kept (grown_of_below hb none) (by cases v.ownBlock <;> simp)
theorem Hold.grow (h : Hold w0 lo e sz v n xs W) (hb : Below W.heap.size W W1) : Hold w0 lo e sz v n xs W1 :=
  ⟨h.row0, row_below (B := 0) h.row hb, grown_trans h.grown (grown_of_below hb _), h.base⟩
theorem Hold.alloc (h : Hold w0 lo e sz v n xs W) (o : Obj) : Hold w0 lo e sz v n xs (W.alloc o) := h.grow ((Below.refl _ _).alloc (Nat.le_refl _) o)
theorem Hold.drewN (h : Hold w0 lo e sz v n xs W) (k : Nat) : Hold w0 lo e sz v n xs (W.drewN k) := h.grow (below_drewN (Below.refl _ _) k)
theorem Hold.drew (h : Hold w0 lo e sz v n xs W) : Hold w0 lo e sz v n xs W.drew := h.grow (below_drewN (Below.refl _ _) 1)
theorem ne_row {p : Nat} {t : TypeId} {cs : Array Value} (h : W.ownsRow lo e sz v n xs) (ho : Own W p t cs) (ht : t ≠ e) : some p ≠ v.ownBlock := fun he => by
  rcases h.2 with ⟨rfl, _⟩ | ⟨g, cap, cur, rfl, hb, hg, _⟩
  · simp [Value.ownBlock] at he
  · simp [Value.ownBlock] at he
    subst he
    unfold Own at ho
    rw [hg] at ho
    simp at ho
    exact ht ho.2.symm
theorem own_grown {p : Nat} {t : TypeId} {cs : Array Value} (h : W.ownsRow lo e sz v n xs) (hg : W.grownBy W1 v.ownBlock) (ho : Own W p t cs) (ht : t ≠ e) : Own W1 p t cs :=
  (hg.block p ho.lt (ne_row h ho ht)).trans ho
theorem Hold.own (h : Hold w0 lo e sz v n xs W) {p : Nat} {t : TypeId} {cs : Array Value} (ho : Own w0 p t cs) (ht : t ≠ e) : Own W p t cs := own_grown h.row0 h.grown ho ht
theorem Hold.below (h : Hold w0 lo e sz v n xs W) : Below lo w0 W := Below.ofGrown (Below.refl _ _) h.grown h.base fun k hk => (h.row0.lt k hk).1
theorem row_of_row {lo' sz' n' : Nat} {e' : TypeId} {v' : Value} {xs' : List Value} (h : W.ownsRow lo e sz v n xs) (hg : W.grownBy W1 v.ownBlock) (k : W.ownsRow lo' e' sz' v' n' xs') (ht : e' ≠ e) : W1.ownsRow lo' e' sz' v' n' xs' := by
  refine k.kept hg ?_
  rcases k.2 with ⟨rfl, _⟩ | ⟨g, cap, cur, rfl, hb, hgg, _⟩
  · exact .inl rfl
  · exact .inr (ne_row h (show Own W g e' cur from hgg) ht)
theorem Hold.rowOf (h : Hold w0 lo e sz v n xs W) {lo' sz' n' : Nat} {e' : TypeId} {v' : Value} {xs' : List Value} (k : w0.ownsRow lo' e' sz' v' n' xs') (ht : e' ≠ e) : W.ownsRow lo' e' sz' v' n' xs' := row_of_row h.row0 h.grown k ht
theorem row_down {lo' : Nat} (h : W.ownsRow lo e sz v n xs) (hl : lo' ≤ lo) : W.ownsRow lo' e sz v n xs :=
  ⟨h.1, h.2.imp id fun ⟨g, cap, cur, e, r1, r2⟩ => ⟨g, cap, cur, e, by omega, r2⟩⟩

/-- What append leaves. -/
structure Apped (w0 : World) (lo : Nat) (e : TypeId) (sz : Nat) (v : Value) (n : Nat) (xs : List Value) (W : World) (v' : Value) (m : Nat) (ys : List Value) (W1 : World) : Prop where
  held : Hold w0 lo e sz v n xs W1
  row : W1.ownsRow lo e sz v' (n + m) (xs ++ ys)
  step : W.grownBy W1 v.ownBlock
  row0 : W.ownsRow lo e sz v n xs
  nil : v' = .slice none 0 0 ↔ v = .slice none 0 0 ∧ m = 0
theorem Apped.below {m : Nat} {ys : List Value} {v' : Value} (h : Apped w0 lo e sz v n xs W v' m ys W1) : Below lo w0 W1 := h.held.below
theorem Apped.own {m : Nat} {ys : List Value} {v' : Value} (h : Apped w0 lo e sz v n xs W v' m ys W1) {p : Nat} {t : TypeId} {cs : Array Value} (ho : Own W p t cs) (ht : t ≠ e) : Own W1 p t cs := own_grown h.row0 h.step ho ht
theorem Apped.rowOf {m : Nat} {ys : List Value} {v' : Value} (h : Apped w0 lo e sz v n xs W v' m ys W1) {lo' sz' n' : Nat} {e' : TypeId} {u : Value} {us : List Value} (k : W.ownsRow lo' e' sz' u n' us) (ht : e' ≠ e) : W1.ownsRow lo' e' sz' u n' us := row_of_row h.row0 h.step k ht

/-- append of one element that has just been laid in a row of its own. -/
theorem Hold.app2 {P : Program} {g : Nat} {cs : Array Value} (t ty : TypeId) (i : TypeInfo) (z : Value) (bytes : Nat) (ht : P.underlying t = some (.slice e)) (hi : P.info? e = some i) (hz : i.zero = some z)
    (hsize : i.size = sz) (hby : i.bytes = bytes) (hzs : z.cells.size = sz) (hsz : 0 < sz) (h63 : n + 1 ≤ maxLen) (hbytes : (n + 1) * bytes ≤ 140737488355328)
    (h : Hold w0 lo e sz v n xs W) (ho : Own W g e cs) (hl : cs.size = sz) (h1 : ∀ u ∈ cs.toList, u.oneCell' = true) :
    ∃ v' W1, (Builtin.append_ #[t, t] ty #[v, .slice (some ⟨g, 0, none⟩) 1 1]).run P W = .ok v' W1 ∧ Apped w0 lo e sz v n xs W v' 1 cs.toList W1 := by
  have hs := h.grown.size
  obtain ⟨v', W1, r1, r2, r3, r4, r5⟩ := app_old (P := P) W lo t ty e i z sz bytes ht hi hz hsize hby hzs hsz v n xs h.row ⟨g, 0, none⟩ 1 1 cs.toList (by simp [hl])
    (fun j u hj => by rw [add_none, Nat.zero_add]; exact (ho.cell j).trans (by simpa using hj)) h1 h63 hbytes (Nat.le_trans h.base hs)
  exact ⟨v', W1, r1, ⟨h.row0, r3, grown_trans h.grown r4, h.base⟩, r2, r4, h.row, r5⟩
theorem Hold.app {P : Program} {W0 : World} {cs : Array Value} (t ty : TypeId) (i : TypeInfo) (z : Value) (bytes : Nat) (ht : P.underlying t = some (.slice e)) (hi : P.info? e = some i) (hz : i.zero = some z)
    (hsize : i.size = sz) (hby : i.bytes = bytes) (hzs : z.cells.size = sz) (hsz : 0 < sz) (h63 : n + 1 ≤ maxLen) (hbytes : (n + 1) * bytes ≤ 140737488355328)
    (h : Hold w0 lo e sz v n xs (W0.alloc (.cells cs e))) (hl : cs.size = sz) (h1 : ∀ u ∈ cs.toList, u.oneCell' = true) :
    ∃ v' W1, (Builtin.append_ #[t, t] ty #[v, .slice (some ⟨W0.heap.size, 0, none⟩) 1 1]).run P (W0.alloc (.cells cs e)) = .ok v' W1 ∧ Apped w0 lo e sz v n xs (W0.alloc (.cells cs e)) v' 1 cs.toList W1 :=
  Hold.app2 t ty i z bytes ht hi hz hsize hby hzs hsz h63 hbytes h (Own.new W0 e cs) hl h1
/-- the world of the append, as it stands in the hypothesis -/
theorem Apped.prior {m : Nat} {ys : List Value} {v' : Value} (h : Apped w0 lo e sz v n xs W v' m ys W1) (k : Below w0.heap.size w0 W) : Below w0.heap.size w0 W := k
end

/-- append, by its run's equation, as one step of a region that draws. -/
theorem step_app {P : Program} {ops : Array Oper} {o : Oper} {a : Act} {w w1 : World} {K : Act → World → Prop} {Q : Exit → Act → World → Prop} {E : Prop}
    (hg : o.guard = none) (s x : Operand) (t : TypeId) (hop : o.op = Op.call { callee := Callee.builtin Builtin.append, args := #[s, x], argTypes := #[t, t] }) (hty : o.type = t)
    (vs vx v : Value) (hs : a.eval s = vs) (hx : a.eval x = vx) (hr : (Builtin.append_ #[t, t] t #[vs, vx]).run P w = .ok v w1) (hK : K (a.put o.dst v) w1) :
    if Region.wanted o (yielded ops a.tmps) = true then Oper.wp P o a w K Q else E := by
  have hw : Region.wanted o (yielded ops a.tmps) = true := by simp [Region.wanted, hg]
  rw [if_pos hw]
  unfold Oper.wp
  simp [execOp, hop, resolve, invoke, builtin, hs, hx, hty, hr, Result.andThen]
  exact hK

/-- append, by its run's equation, at the list of a plain region's operations. -/
theorem wpList_app {P : Program} {w w1 : World} {ops : Array Oper} {rest : List Oper} {o : Oper} {a : Act} {Q : Exit → Act → World → Prop} (hgd : o.guard = none) (s x : Operand) (t : TypeId)
    (ho : o.op = Op.call { callee := Callee.builtin Builtin.append, args := #[s, x], argTypes := #[t, t] }) (hty : o.type = t) (vs vx v : Value) (hs : a.eval s = vs) (hx : a.eval x = vx)
    (hr : (Builtin.append_ #[t, t] t #[vs, vx]).run P w = .ok v w1) (h : wpList P ops Q rest (a.put o.dst v) w1) : wpList P ops Q (o :: rest) a w := by
  refine wpList_plain hgd fun K hK => ?_
  unfold Oper.wp
  simp [execOp, ho, resolve, invoke, builtin, hs, hx, hty, hr, Result.andThen]
  exact hK _ _ h

/-- A pointer, nil or to a block that is known whole. -/
def Lc (W : World) (t : TypeId) (a : Option Addr) (C : Option (Array Value)) : Prop := (C = none ∧ a = none) ∨ ∃ p cs, C = some cs ∧ a = some ⟨p, 0, none⟩ ∧ Own W p t cs
theorem Lc.keep {W W1 : World} {t : TypeId} {a : Option Addr} {C : Option (Array Value)} (h : Lc W t a C) (k : ∀ p cs, Own W p t cs → Own W1 p t cs) : Lc W1 t a C :=
  h.imp id fun ⟨p, cs, h1, h2, h3⟩ => ⟨p, cs, h1, h2, k p cs h3⟩
theorem Lc.below {W W1 : World} {t : TypeId} {a : Option Addr} {C : Option (Array Value)} (h : Lc W t a C) (hb : Below W.heap.size W W1) : Lc W1 t a C := h.keep fun p cs ho => ho.below hb ho.lt
end Go.Proofs.Ytmjfdhgfpgeboac.Ho
