/-
  Proved: what the making of the plugin, a registration and the reading of the plugin leave: the stored callbacks stand in the order of the calls.
  Conditions: those that each theorem names as its hypotheses, and no others.
-/
import Derived.Test.YtobpghjknciobabPc
import Derived.Deep.RegionLaw
namespace Go.Proofs.Ytobpghjknciobab.Pd
open Go.RowKit Go.PlainAid Mem Ho Pa Pb Pc
set_option linter.unusedVariables false
set_option linter.unusedSimpArgs false
def implC (name : ByteArray) (v : Value) : Array Value := #[.nilFunc, .nilFunc, .nilFunc, .nilFunc, .int .i8 0, .map none, .nilIface, .string name, v, .slice none 0 0, .slice none 0 0]
theorem info36 : (Try.prog.info? 36).map (fun i => (i.zero, i.size, i.bytes)) = some (some (.agg #[.nilFunc, .string ⟨#[]⟩]), 2, 24) := by kernel_rfl
def fnOf (th : Bool) : Value := .func (.func (if th then 7 else 8)) #[] #[]
def cell0 (bx : Nat) : Value := .func (.func 13) #[] #[.pointer (some ⟨bx, 0, none⟩)]
theorem own_ne {W : World} {p q : Nat} {t t' : TypeId} {cs cs' : Array Value} (h : Own W p t cs) (k : Own W q t' cs') (ht : t ≠ t') : p ≠ q := fun e => by
  subst e
  unfold Own at h k
  rw [h] at k
  injection k with k
  injection k with _ k
  exact ht k
/-- k callbacks are laid -/
structure St (W : World) (lo p : Nat) (name : ByteArray) (th : Nat → Bool) (k : Nat) (v : Value) (xs : List Value) : Prop where
  own : Own W p 54 (implC name v)
  row : W.ownsRow lo 36 2 v k xs
  each : ∀ j, j < k → ∃ bx, xs[j * 2]? = some (cell0 bx) ∧ xs[j * 2 + 1]? = some (.string name) ∧ Own W bx 27 #[fnOf (th j)]
  lp : lo ≤ p
  lw : lo ≤ W.heap.size
theorem St.below {W W1 : World} {lo p k : Nat} {name : ByteArray} {th : Nat → Bool} {v : Value} {xs : List Value} (h : St W lo p name th k v xs) (hb : Below W.heap.size W W1) : St W1 lo p name th k v xs :=
  ⟨h.own.below hb h.own.lt, row_below (B := 0) h.row hb, fun j hj => by
    obtain ⟨bx, h1, h2, h3⟩ := h.each j hj
    exact ⟨bx, h1, h2, h3.below hb h3.lt⟩, h.lp, Nat.le_trans h.lw hb.size⟩
def Made (name : ByteArray) (th : Nat → Bool) (w : World) (e : Ending) (w' : World) : Prop := ∃ p, e = .returned (.pointer (some ⟨p, 0, none⟩)) ∧ St w' w.heap.size p name th 0 (.slice none 0 0) [] ∧ Below w.heap.size w w'
set_option maxRecDepth 100000 in
theorem impl5 (name : ByteArray) (th : Nat → Bool) (w : World) : Calls Try.prog 5 #[.string name] w (Made name th w) := by
  go_enter Try.func5, Try.ntmps5
  go_wp2
  go_ret
  refine ⟨w.heap.size, rfl, ⟨?_, World.ownsRow_nil _ _ _ _, fun j hj => absurd hj (by omega), Nat.le_refl _, ?_⟩, by go_grown⟩
  · exact own_at rfl _ _
  · simp
theorem get_lt {xs ys : List Value} {i : Nat} {u : Value} (h : xs[i]? = some u) : (xs ++ ys)[i]? = some u := by
  rw [List.getElem?_append_left (List.getElem?_eq_some_iff.1 h).1]; exact h
theorem get_ge {xs ys : List Value} {i j : Nat} (h : i = xs.length + j) : (xs ++ ys)[i]? = ys[j]? := by
  subst h
  rw [List.getElem?_append_right (by omega), Nat.add_sub_cancel_left]
def On (lo p : Nat) (name : ByteArray) (th : Nat → Bool) (k : Nat) (w : World) (e : Ending) (w' : World) : Prop := e = .returned (.tuple #[]) ∧ ∃ v xs, St w' lo p name th (k + 1) v xs ∧ Below lo w w'
set_option maxRecDepth 100000 in
set_option maxHeartbeats 1000000 in
theorem start11 (lo p k : Nat) (name : ByteArray) (th : Nat → Bool) (v : Value) (xs : List Value) (w : World) (hS : St w lo p name th k v xs) (hk : k ≤ 4096) :
    Calls Try.prog 11 #[.pointer (some ⟨p, 0, none⟩), fnOf (th k)] w (On lo p name th k w) := by
  obtain ⟨A, c, rfl⟩ := row_form hS.row
  have HS := Lib.hid hS
  clear hS
  obtain ⟨i36, hi36, hz36, hs36, hb36⟩ := info_parts info36
  have hfo : fnOf (th k) = .func (.func (if th k then 7 else 8)) #[] #[] := rfl
  obtain ⟨q, hq⟩ : ∃ q : Nat, (if th k then 7 else 8 : Nat) = q := ⟨_, rfl⟩
  rw [hq] at hfo
  rw [hfo]
  have HFO := Lib.hid hfo
  clear hfo hq
  go_enter Try.func11, Try.ntmps11
  go_upto_region 1 with fail
  generalize hW : w.alloc _ = W
  have hb : Below w.heap.size w W := by rw [← hW]; exact (Below.refl _ _).alloc (Nat.le_refl _) _
  have hbx : Own W w.heap.size 27 #[fnOf (th k)] := by rw [HFO.out, ← hW]; exact Own.new _ _ _
  have HS1 := Lib.hid (HS.out.below hb)
  have HBx := Lib.hid hbx
  have HB := Lib.hid hb
  have c7 : W.cell? ⟨p, 7, none⟩ = some (.string name) := (HS1.out.own.cell 7).trans rfl
  have c8 : W.cell? ⟨p, 8, none⟩ = some (.slice A k c) := (HS1.out.own.cell 8).trans rfl
  have d7 : ∀ o, (W.alloc o).cell? ⟨p, 7, none⟩ = some (.string name) := fun o => ((HS1.out.own.alloc o).cell 7).trans rfl
  have d8 : ∀ o, (W.alloc o).cell? ⟨p, 8, none⟩ = some (.slice A k c) := fun o => ((HS1.out.own.alloc o).cell 8).trans rfl
  have HH := Lib.hid (Hold.start HS1.out.row HS1.out.lw)
  have hk1 : k + 1 ≤ maxLen := by unfold maxLen; omega
  have hk2 : (k + 1) * 24 ≤ 140737488355328 := by omega
  clear hW hb hbx
  have HHx := Lib.hid (Hold.drew (Hold.alloc HH.out (.cells #[.func (.func 13) #[] #[.pointer (some ⟨w.heap.size, 0, none⟩)], .string name] 36)))
  obtain ⟨v4, W4, ra, hA⟩ := Hold.app2 (P := Try.prog) (g := W.heap.size) (cs := #[.func (.func 13) #[] #[.pointer (some ⟨w.heap.size, 0, none⟩)], .string name]) 28 28 i36 (.agg #[.nilFunc, .string ⟨#[]⟩]) 24 Try.underlying28 hi36 hz36 hs36 hb36 rfl (by decide) hk1 hk2 HHx.out (Own.drew (Own.new _ _ _)) (by rfl) (by simp [Value.oneCell'])
  obtain ⟨A4, c4, hv4⟩ := row_form hA.row
  subst hv4
  have hp4 := hA.own ((HS1.out.own.alloc _).drew) (by decide)
  have hb4 := hA.own ((HBx.out.alloc _).drew) (by decide)
  have x8 : W4.cell? ⟨p, 8, none⟩ = some (.slice A k c) := (hp4.cell 8).trans rfl
  have f8 := hp4.frozen 8
  have HSt : Hid (St (W4.setCell ⟨p, 8, none⟩ (.slice A4 (k + 1) c4)) lo p name th (k + 1) (.slice A4 (k + 1) c4) (xs ++ [.func (.func 13) #[] #[.pointer (some ⟨w.heap.size, 0, none⟩)], .string name])) := Lib.hid (by
    have hl := HS1.out.row.1
    refine ⟨hp4.set 8 _, row_set hA.row hp4 (by decide) _ _, fun j hj => ?_, HS1.out.lp, ?_⟩
    · by_cases e : j = k
      · subst e
        exact ⟨w.heap.size, (get_ge (j := 0) (by omega)).trans rfl, (get_ge (j := 1) (by omega)).trans rfl, hb4.far (own_ne hb4 hp4 (by decide)) _⟩
      · obtain ⟨bx, h1, h2, h3⟩ := HS1.out.each j (by omega)
        have h4 := hA.own ((h3.alloc _).drew) (by decide)
        exact ⟨bx, get_lt h1, get_lt h2, h4.far (own_ne h4 hp4 (by decide)) _⟩
    · exact Nat.le_trans HS1.out.lw (hA.below.setCell (p := ⟨p, 8, none⟩) HS1.out.lp (.slice A4 (k + 1) c4)).size)
  have HBn : Hid (Below lo w (W4.setCell ⟨p, 8, none⟩ (.slice A4 (k + 1) c4))) := Lib.hid (((HB.out.mono HS.out.lw).trans hA.below).setCell HS1.out.lp _)
  clear hA hp4 hb4
  go_region_law (refine step_app rfl (.tmp 9) (.tmp 17) 28 rfl rfl _ _ _ (by simp [Act.eval, Act.put]) (by simp [Act.eval, Act.put]) ra ?_)
  all_goals
    clear c7 c8 d7 d8 x8 f8 ra
    go_wp2
    go_end0
    exact ⟨rfl, _, _, HSt.out, HBn.out⟩
theorem on6 (lo p k : Nat) (name : ByteArray) (th : Nat → Bool) (v : Value) (xs : List Value) (w : World) (hS : St w lo p name th k v xs) (hk : k ≤ 4096) :
    Calls Try.prog 6 #[.pointer (some ⟨p, 0, none⟩), fnOf (th k)] w (On lo p name th k w) := by
  have H := Lib.hid (start11 lo p k name th v xs w hS hk)
  clear hS
  obtain ⟨f, hf⟩ : ∃ f, fnOf (th k) = f := ⟨_, rfl⟩
  rw [hf] at H ⊢
  clear hf
  go_enter Try.func6, Try.ntmps6
  go_wp2_with fail
  refine H.out.mono ?_
  rintro e w' ⟨rfl, v', xs', h1, h2⟩
  have H1 := Lib.hid h1
  have H2 := Lib.hid h2
  clear h1 h2
  go_wp2
  go_end0
  exact ⟨rfl, v', xs', H1.out, H2.out⟩
set_option maxRecDepth 100000 in
theorem plug9 (p : Nat) (name : ByteArray) (A : Option Addr) (n c : Nat) (w : World) (h : Own w p 54 (implC name (.slice A n c))) :
    Calls Try.prog 9 #[.pointer (some ⟨p, 0, none⟩)] w (Giv (.agg #[.string name, .slice A n c, .slice none 0 0, .slice none 0 0]) w) := by
  have c7 : ∀ o, (w.alloc o).cell? ⟨p, 7, none⟩ = some (.string name) := fun o => ((h.alloc o).cell 7).trans rfl
  have c8 : ∀ o, (w.alloc o).cell? ⟨p, 8, none⟩ = some (.slice A n c) := fun o => ((h.alloc o).cell 8).trans rfl
  have c9 : ∀ o, (w.alloc o).cell? ⟨p, 9, none⟩ = some (.slice none 0 0) := fun o => ((h.alloc o).cell 9).trans rfl
  have c10 : ∀ o, (w.alloc o).cell? ⟨p, 10, none⟩ = some (.slice none 0 0) := fun o => ((h.alloc o).cell 10).trans rfl
  clear h
  go_enter Try.func9, Try.ntmps9
  go_wp2
  exact bodyPost_ret (v := .agg #[.string name, .slice A n c, .slice none 0 0, .slice none 0 0]) (by simp [results, Try.results9, go_sem]) rfl ⟨rfl, by go_grown⟩
end Go.Proofs.Ytobpghjknciobab.Pd
