/-
  The merge's state: entries done, entries to come, the clone under way; its steps. Conditions: sizes alone.
-/
import Derived.Test.YtmjfdhgfpgeboaaGd
namespace Go.Proofs.Ytmjfdhgfpgeboaa.Ge
open Go.RowKit Go.PlainAid Mem Sz Ga Gm Gb Gd
set_option linter.unusedVariables false

abbrev Cl := Option (Int × Bool)
def NoAdj (C : Nat → Cl) (n : Nat) : Prop := ∀ i, i + 1 < n → ∀ x, C i = some x → C (i + 1) ≠ some x

structure Mg (w wr : World) (rb n N B0 : Nat) (V0 : Nat → Value) (C0 : Nat → Cl) (l0 : Nat → Int) (i e : Nat) (did : Bool) (cs : Array Value) (V : Nat → Value) (C : Nat → Cl) (l : Nat → Int) (B1 : Nat) : Prop where
  own : Own wr rb 37 cs
  size : n * 2 ≤ cs.size
  ei : 1 ≤ e ∧ e ≤ i ∧ i ≤ n
  hd : ∀ k, k < e → cs[k * 2]? = some (V k) ∧ cs[k * 2 + 1]? = some (.int .i32 (l k))
  tl : ∀ k, i ≤ k → k < n → cs[k * 2]? = some (V0 k) ∧ cs[k * 2 + 1]? = some (.int .i32 (l0 k))
  old : ∀ k, k < n → Ent wr (rb + 1) B0 (rb + 1) B0 N (V0 k) (C0 k)
  ok : ∀ k, k < e → (did = true → k ≠ e - 1) → Ent wr (rb + 1) B1 (rb + 1) B0 (N * n) (V k) (C k)
  cur : did = true → ∃ p kd ex, C (e - 1) = some (kd, ex) ∧ V (e - 1) = .iface 60 (.pointer (some ⟨p, 0, none⟩)) ∧ LocS wr B1 wr.heap.size (rb + 1) B0 (N * i) p kd ex
  last : did = false → Ent wr (rb + 1) B0 (rb + 1) B0 N (V (e - 1)) (C (e - 1))
  b : rb < B0 ∧ B0 ≤ B1 ∧ B1 ≤ wr.heap.size
  adj : NoAdj C e
  same : NoAdj C0 n → e = i ∧ did = false ∧ ∀ k, k < e → V k = V0 k ∧ l k = l0 k ∧ C k = C0 k
  below : Below rb w wr
  fr : Eqs (rb + 1) B0 w wr

variable {w wr : World} {rb n N B0 : Nat} {V0 : Nat → Value} {C0 : Nat → Cl} {l0 : Nat → Int} {i e : Nat} {did : Bool} {cs : Array Value} {V : Nat → Value} {C : Nat → Cl} {l : Nat → Int} {B1 : Nat}

def up {α : Type} (f : Nat → α) (e : Nat) (v : α) : Nat → α := fun k => if k = e then v else f k
theorem up_same {α : Type} (f : Nat → α) (e : Nat) (v : α) : up f e v e = v := by unfold up; rw [if_pos rfl]
theorem up_other {α : Type} (f : Nat → α) {e k : Nat} (v : α) (h : k ≠ e) : up f e v k = f k := by unfold up; rw [if_neg h]

/-- Every entry that is done, the clone under way among them. -/
theorem Mg.all (h : Mg w wr rb n N B0 V0 C0 l0 i e did cs V C l B1) (hi : i ≤ n) : ∀ k, k < e → Ent wr (rb + 1) wr.heap.size (rb + 1) B0 (N * n) (V k) (C k) := fun k hk => by
  have hb := h.b
  have hm : N * i ≤ N * n := Nat.mul_le_mul_left N hi
  by_cases hd : did = true ∧ k = e - 1
  · obtain ⟨h1, rfl⟩ := hd
    obtain ⟨p, kd, ex, a1, a2, a3⟩ := h.cur h1
    exact .inr ⟨p, kd, ex, a1, a2, a3.widen (by omega) (Nat.le_refl _) (Nat.le_refl _) (Nat.le_refl _) hm⟩
  · exact (h.ok k hk (fun h1 h2 => hd ⟨h1, h2⟩)).widen (Nat.le_refl _) hb.2.2 (Nat.le_refl _) (Nat.le_refl _) (Nat.le_refl _)

/-- A statement put behind the others. -/
theorem Mg.put (h : Mg w wr rb n N B0 V0 C0 l0 i e did cs V C l B1) (hi : i < n) (hne : ∀ x, C (e - 1) = some x → C0 i ≠ some x) {wx w' : World} (hx : Below wr.heap.size wr wx)
    (hw : w' = (wx.setCell ⟨rb, e * 2, none⟩ (V0 i)).setCell ⟨rb, e * 2 + 1, none⟩ (.int .i32 (l0 i))) :
    Mg w w' rb n N B0 V0 C0 l0 (i + 1) (e + 1) false ((cs.setIfInBounds (e * 2) (V0 i)).setIfInBounds (e * 2 + 1) (.int .i32 (l0 i))) (up V e (V0 i)) (up C e (C0 i)) (up l e (l0 i)) wr.heap.size := by
  subst hw
  obtain ⟨b1, b2, b3⟩ := h.b
  obtain ⟨e1, e2, e3⟩ := h.ei
  have hs := h.size
  have hsz := hx.size
  have hrb := h.own.lt
  have hz : ((wx.setCell ⟨rb, e * 2, none⟩ (V0 i)).setCell ⟨rb, e * 2 + 1, none⟩ (.int .i32 (l0 i))).heap.size = wx.heap.size := by simp
  have eq0 : Eqs (rb + 1) wx.heap.size wx ((wx.setCell ⟨rb, e * 2, none⟩ (V0 i)).setCell ⟨rb, e * 2 + 1, none⟩ (.int .i32 (l0 i))) := fun b h1 h2 =>
    (Below.heap_setCell _ _ _ b (by show b ≠ rb; omega)).trans (Below.heap_setCell _ _ _ b (by show b ≠ rb; omega))
  have eq : Eqs (rb + 1) wr.heap.size wr ((wx.setCell ⟨rb, e * 2, none⟩ (V0 i)).setCell ⟨rb, e * 2 + 1, none⟩ (.int .i32 (l0 i))) := (Eqs.below hx (Nat.le_refl _)).trans (eq0.mono (Nat.le_refl _) hsz)
  have eqB : Eqs (rb + 1) B0 wr ((wx.setCell ⟨rb, e * 2, none⟩ (V0 i)).setCell ⟨rb, e * 2 + 1, none⟩ (.int .i32 (l0 i))) := eq.mono (Nat.le_refl _) (by omega)
  have hold := fun k hk => (h.old k hk).eqs eqB eqB
  refine ⟨Own.put2 (h.own.below hx hrb) _ _, by simpa using hs, ⟨by omega, by omega, by omega⟩, fun k hk => ?_, fun k hk1 hk2 => ?_, hold, fun k hk _ => ?_, (fun h => by cases h), fun _ => ?_, ⟨b1, by omega, by rw [hz]; exact hsz⟩, ?_, fun ha => ?_, ?_, h.fr.trans eqB⟩
  · by_cases ek : k = e
    · subst ek
      rw [up_same, up_same]
      exact ⟨by rw [Array.getElem?_setIfInBounds_ne (by omega), Array.getElem?_setIfInBounds_self_of_lt (by omega)], by rw [Array.getElem?_setIfInBounds_self_of_lt (by simp; omega)]⟩
    · rw [up_other V _ ek, up_other l _ ek, Array.getElem?_setIfInBounds_ne (by omega), Array.getElem?_setIfInBounds_ne (by omega), Array.getElem?_setIfInBounds_ne (by omega), Array.getElem?_setIfInBounds_ne (by omega)]
      exact h.hd k (by omega)
  · rw [Array.getElem?_setIfInBounds_ne (by omega), Array.getElem?_setIfInBounds_ne (by omega), Array.getElem?_setIfInBounds_ne (by omega), Array.getElem?_setIfInBounds_ne (by omega)]
    exact h.tl k (by omega) hk2
  · by_cases ek : k = e
    · subst ek
      rw [up_same, up_same]
      have hN : N ≤ N * n := by have := Nat.mul_le_mul_left N (show 1 ≤ n by omega); omega
      exact (hold i hi).widen (Nat.le_refl _) (by omega) (Nat.le_refl _) (Nat.le_refl _) hN
    · rw [up_other V _ ek, up_other C _ ek]
      exact (h.all (by omega) k (by omega)).eqs eq eqB
  · show Ent _ _ _ _ _ _ (up V e (V0 i) (e + 1 - 1)) (up C e (C0 i) (e + 1 - 1))
    have : e + 1 - 1 = e := by omega
    rw [this, up_same, up_same]
    exact hold i hi
  · intro k hk x hx1
    by_cases ek : k + 1 = e
    · rw [show k + 1 = e from ek, up_same]
      rw [up_other C _ (by omega)] at hx1
      exact hne x (by rw [← ek]; exact hx1)
    · rw [up_other C _ (by omega)] at hx1 ⊢
      exact h.adj k (by omega) x hx1
  · obtain ⟨s1, _, s3⟩ := h.same ha
    refine ⟨by omega, rfl, fun k hk => ?_⟩
    by_cases ek : k = e
    · subst ek
      rw [up_same, up_same, up_same, s1]
      exact ⟨rfl, rfl, rfl⟩
    · rw [up_other V _ ek, up_other l _ ek, up_other C _ ek]
      exact s3 k (by omega)
  · exact ((h.below.trans (hx.mono (by omega))).setCell (p := ⟨rb, e * 2, none⟩) (Nat.le_refl _) _).setCell (p := ⟨rb, e * 2 + 1, none⟩) (Nat.le_refl _) _

/-- The clone takes the next statement's declarations. -/
theorem Mg.more (h : Mg w wr rb n N B0 V0 C0 l0 i e true cs V C l B1) (hi : i < n) {kd : Int} {ex : Bool} (hc : C (e - 1) = some (kd, ex)) (h0 : C0 i = some (kd, ex)) {p : Nat}
    (hv : V (e - 1) = .iface 60 (.pointer (some ⟨p, 0, none⟩))) {w' : World} (hx : Below B1 wr w') (hL : LocS w' B1 w'.heap.size (rb + 1) B0 (N * (i + 1)) p kd ex) :
    Mg w w' rb n N B0 V0 C0 l0 (i + 1) e true cs V C l B1 := by
  obtain ⟨b1, b2, b3⟩ := h.b
  obtain ⟨e1, e2, e3⟩ := h.ei
  have eq1 : Eqs (rb + 1) B1 wr w' := Eqs.below hx (Nat.le_refl _)
  have eqB : Eqs (rb + 1) B0 wr w' := eq1.mono (Nat.le_refl _) b2
  refine ⟨h.own.below hx (by omega), h.size, ⟨e1, by omega, by omega⟩, h.hd, fun k a b => h.tl k (by omega) b, fun k hk => (h.old k hk).eqs eqB eqB, fun k hk hd => (h.ok k hk hd).eqs eq1 eqB, fun _ => ⟨p, kd, ex, hc, hv, hL⟩, (fun h => by cases h), ⟨b1, b2, by have := hx.size; omega⟩, h.adj, fun ha => ?_, h.below.trans (hx.mono (by omega)), h.fr.trans eqB⟩
  have := (h.same ha).2.1
  cases this

/-- A clone begins. -/
theorem Mg.clone (h : Mg w wr rb n N B0 V0 C0 l0 i e false cs V C l B1) (hi : i < n) {kd : Int} {ex : Bool} (hc : C (e - 1) = some (kd, ex)) (h0 : C0 i = some (kd, ex)) {p : Nat} {wx w' : World}
    (hx : Below wr.heap.size wr wx) (hw : w' = wx.setCell ⟨rb, (e - 1) * 2, none⟩ (.iface 60 (.pointer (some ⟨p, 0, none⟩)))) (hL : LocS wx wr.heap.size wx.heap.size (rb + 1) B0 (N * (i + 1)) p kd ex) :
    Mg w w' rb n N B0 V0 C0 l0 (i + 1) e true (cs.setIfInBounds ((e - 1) * 2) (.iface 60 (.pointer (some ⟨p, 0, none⟩)))) (up V (e - 1) (.iface 60 (.pointer (some ⟨p, 0, none⟩)))) C l wr.heap.size := by
  subst hw
  obtain ⟨b1, b2, b3⟩ := h.b
  obtain ⟨e1, e2, e3⟩ := h.ei
  have hs := h.size
  have hsz := hx.size
  have hrb := h.own.lt
  have hz : (wx.setCell ⟨rb, (e - 1) * 2, none⟩ (.iface 60 (.pointer (some ⟨p, 0, none⟩)))).heap.size = wx.heap.size := by simp
  have eq0 : Eqs (rb + 1) wx.heap.size wx (wx.setCell ⟨rb, (e - 1) * 2, none⟩ (.iface 60 (.pointer (some ⟨p, 0, none⟩)))) := fun b h1 h2 => Below.heap_setCell _ _ _ b (by show b ≠ rb; omega)
  have eq : Eqs (rb + 1) wr.heap.size wr (wx.setCell ⟨rb, (e - 1) * 2, none⟩ (.iface 60 (.pointer (some ⟨p, 0, none⟩)))) := (Eqs.below hx (Nat.le_refl _)).trans (eq0.mono (Nat.le_refl _) hsz)
  have eqB : Eqs (rb + 1) B0 wr (wx.setCell ⟨rb, (e - 1) * 2, none⟩ (.iface 60 (.pointer (some ⟨p, 0, none⟩)))) := eq.mono (Nat.le_refl _) (by omega)
  refine ⟨(h.own.below hx hrb).set _ _, by simpa using hs, ⟨e1, by omega, by omega⟩, fun k hk => ?_, fun k a b => ?_, fun k hk => (h.old k hk).eqs eqB eqB, fun k hk hd => ?_, fun _ => ?_, (fun h => by cases h), ⟨b1, by omega, by rw [hz]; exact hsz⟩, h.adj, fun ha => ?_, ?_, h.fr.trans eqB⟩
  · by_cases ek : k = e - 1
    · subst ek
      rw [up_same, Array.getElem?_setIfInBounds_self_of_lt (by omega), Array.getElem?_setIfInBounds_ne (by omega)]
      exact ⟨rfl, (h.hd _ hk).2⟩
    · rw [up_other V _ ek, Array.getElem?_setIfInBounds_ne (by omega), Array.getElem?_setIfInBounds_ne (by omega)]
      exact h.hd k hk
  · rw [Array.getElem?_setIfInBounds_ne (by omega), Array.getElem?_setIfInBounds_ne (by omega)]
    exact h.tl k (by omega) b
  · have ek : k ≠ e - 1 := hd rfl
    rw [up_other V _ ek]
    exact (h.all (by omega) k hk).eqs eq eqB
  · exact ⟨p, kd, ex, hc, up_same _ _ _, by rw [hz]; exact hL.eqs (eq0.mono (by omega) (Nat.le_refl _)) (eq0.mono (Nat.le_refl _) (by omega))⟩
  · obtain ⟨s1, _, s3⟩ := h.same ha
    exfalso
    have c1 := (s3 (e - 1) (by omega)).2.2
    rw [hc] at c1
    have h3 := ha (e - 1) (by omega) (kd, ex) c1.symm
    rw [show e - 1 + 1 = i by omega] at h3
    exact h3 h0
  · exact (h.below.trans (hx.mono (by omega))).setCell (p := ⟨rb, (e - 1) * 2, none⟩) (Nat.le_refl _) _
/-- New blocks alone. -/
theorem Mg.grow (h : Mg w wr rb n N B0 V0 C0 l0 i e did cs V C l B1) {w' : World} (hx : Below wr.heap.size wr w') : Mg w w' rb n N B0 V0 C0 l0 i e did cs V C l B1 := by
  obtain ⟨b1, b2, b3⟩ := h.b
  have hsz := hx.size
  have eq : Eqs (rb + 1) wr.heap.size wr w' := Eqs.below hx (Nat.le_refl _)
  have eqB : Eqs (rb + 1) B0 wr w' := eq.mono (Nat.le_refl _) (by omega)
  exact ⟨h.own.below hx h.own.lt, h.size, h.ei, h.hd, h.tl, fun k hk => (h.old k hk).eqs eqB eqB, fun k hk hd => (h.ok k hk hd).eqs (eq.mono (Nat.le_refl _) b3) eqB, fun hd => by
    obtain ⟨p, kd, ex, a1, a2, a3⟩ := h.cur hd
    exact ⟨p, kd, ex, a1, a2, (a3.eqs (eq.mono (by omega) (Nat.le_refl _)) eqB).widen (Nat.le_refl _) hsz (Nat.le_refl _) (Nat.le_refl _) (Nat.le_refl _)⟩,
    fun hd => (h.last hd).eqs eqB eqB, ⟨b1, b2, by omega⟩, h.adj, h.same, h.below.trans (hx.mono (by have := h.own.lt; omega)), h.fr.trans eqB⟩
end Go.Proofs.Ytmjfdhgfpgeboaa.Ge
