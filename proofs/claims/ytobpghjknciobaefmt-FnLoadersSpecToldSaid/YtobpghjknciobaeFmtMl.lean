/-
  Proved: a map that is filled key by key agrees with a list of distinct keys, and a walk over it visits each key once. Conditions: those that each
  theorem names as its hypotheses, and no others.
-/
import Derived.Maps.Own
import Derived.Maps.OwnSet
import Derived.Maps.Ext
import Derived.Maps.Range
import Derived.Maps.Views
import Derived.StringKeys
namespace Go.Proofs.YtobpghjknciobaeFmt.Ml
open Go.Maps Go.WideMaps Go.WideShapes
set_option linter.unusedVariables false
set_option linter.unusedSimpArgs false
abbrev DV := DataW Value
/-- A ghost set of string keys. -/
def SetOf (X : DV) (p : List UInt8 → Bool) : Prop :=
  ∃ es, X = .map es ∧ es.Pairwise (fun a b => a.1.before b.1 = true) ∧ (∀ q ∈ es, ∃ s, q = (Lit.string s, DataW.nil)) ∧ ∀ s, has X (.string s) = p s
theorem SetOf.start : SetOf (.map []) (fun _ => false) := ⟨[], rfl, List.Pairwise.nil, by simp, fun s => rfl⟩
theorem SetOf.congr {X : DV} {p p' : List UInt8 → Bool} (h : SetOf X p) (e : ∀ s, p' s = p s) : SetOf X p' := by
  obtain ⟨es, h1, h2, h3, h4⟩ := h
  exact ⟨es, h1, h2, h3, fun s => (h4 s).trans (e s).symm⟩
theorem has_mem {es : List (Lit × DV)} (h3 : ∀ q ∈ es, ∃ s, q = (Lit.string s, DataW.nil)) (s : List UInt8) : has (.map es : DV) (.string s) = true ↔ (Lit.string s, DataW.nil) ∈ es := by
  rw [has_eq, List.any_eq_true]
  constructor
  · rintro ⟨q, hq, hk⟩
    obtain ⟨r, rfl⟩ := h3 q hq
    have := WideAt.sameKey_eq hk
    simp only [Lit.string.injEq] at this
    subst this
    exact hq
  · intro h
    exact ⟨_, h, WideAt.sameKey_self (a := .string s) trivial⟩
theorem SetOf.size_eq {X Y : DV} {p : List UInt8 → Bool} (h : SetOf X p) (k : SetOf Y p) : size X = size Y := by
  obtain ⟨es, rfl, h2, h3, h4⟩ := h
  obtain ⟨fs, rfl, k2, k3, k4⟩ := k
  have : es = fs := eq_of_mem_rising h2 k2 fun q => by
    constructor
    · intro hq
      obtain ⟨s, rfl⟩ := h3 q hq
      have := (has_mem h3 s).2 hq
      rw [h4, ← k4] at this
      exact (has_mem k3 s).1 this
    · intro hq
      obtain ⟨s, rfl⟩ := k3 q hq
      have := (has_mem k3 s).2 hq
      rw [k4, ← h4] at this
      exact (has_mem h3 s).1 this
  rw [this]
theorem SetOf.add {X : DV} {p p' : List UInt8 → Bool} {s : List UInt8} (h : SetOf X p) (hs : p s = false) (hp : ∀ r, p' r = (p r || decide (r = s))) : SetOf (X.put (.string s) .nil) p' ∧ size (X.put (.string s) .nil) = size X + 1 := by
  obtain ⟨es, rfl, h2, h3, h4⟩ := h
  have hT : Tidy (.map es : DV) := ⟨es, rfl, apart_of_rising h2⟩
  have hn : has (.map es : DV) (.string s) = false := (h4 s).trans hs
  have hf : (es.filter fun q => !q.1.sameKey (.string s)) = es := by
    rw [List.filter_eq_self]
    intro q hq
    obtain ⟨r, rfl⟩ := h3 q hq
    cases hk : (Lit.string r).sameKey (.string s)
    · rfl
    · have e := WideAt.sameKey_eq hk
      simp only [Lit.string.injEq] at e
      subst e
      rw [(has_mem h3 r).2 hq] at hn
      cases hn
  refine ⟨⟨DataW.insert (.string s, .nil) es, by simp only [DataW.put, hf], ?_, ?_, ?_⟩, by rw [size_put hT, hn]; rfl⟩
  · refine ChangeMaps.insert_sorted ⟨s, rfl⟩ es h2 (fun q hq => ?_) (fun q hq e => ?_)
    · obtain ⟨r, rfl⟩ := h3 q hq; exact ⟨r, rfl⟩
    · obtain ⟨r, rfl⟩ := h3 q hq
      simp only [Lit.string.injEq] at e
      subst e
      rw [(has_mem h3 r).2 hq] at hn
      cases hn
  · intro q hq
    rcases ChangeMaps.mem_insert_iff.1 hq with rfl | hq
    · exact ⟨s, rfl⟩
    · exact h3 q hq
  · intro r
    by_cases e : r = s
    · subst e
      rw [has_put_same (k := .string r) ⟨es, rfl⟩ trivial, hp, decide_eq_true rfl, Bool.or_true]
    · rw [has_put_other (by simp; exact e), h4, hp, decide_eq_false e, Bool.or_false]
def vl (z : Int) : Int := if z ≤ 11 then z else if z ≤ 15 then z + 1 else 18
structure Inv (B0 D0 E X G : DV) (bad : List UInt8 → Bool) (left : Lit → Bool) : Prop where
  hE : ∀ s, has E (.string s) = (has B0 (.string s) || (has D0 (.string s) && !left (.string s)))
  aN : ∀ s, (has D0 (.string s) && !left (.string s)) = true → ∀ z : Int, (∀ q, D0.atKey (.string s) q = .held (.int .u16 z)) → ∀ zd, E.atKey (.string s) zd = .held (.int .u8 (vl z))
  aO : ∀ s, (has D0 (.string s) && !left (.string s)) = false → ∀ zd, E.atKey (.string s) zd = B0.atKey (.string s) zd
  sE : size E = size B0 + size X
  sX : SetOf X (fun s => (has D0 (.string s) && !left (.string s)) && !has B0 (.string s))
  sG : SetOf G (fun s => (has D0 (.string s) && !left (.string s)) && bad s)
theorem Inv.start (B0 D0 : DV) (bad : List UInt8 → Bool) : Inv B0 D0 B0 (.map []) (.map []) bad (has D0) := by
  have e : ∀ s, (has D0 (.string s) && !has D0 (.string s)) = false := fun s => Bool.and_not_self _
  refine ⟨fun s => ?_, fun s h => ?_, fun s _ zd => rfl, rfl, SetOf.start.congr fun s => ?_, SetOf.start.congr fun s => ?_⟩
  · rw [e, Bool.or_false]
  · rw [e] at h; cases h
  · rw [e, Bool.false_and]
  · rw [e, Bool.false_and]
theorem Inv.step {B0 D0 E X G : DV} {bad : List UInt8 → Bool} {left : Lit → Bool} (h : Inv B0 D0 E X G bad left) (hT : Tidy E) {s : List UInt8} (hl : left (.string s) = true) {z : Int} (hz : ∀ q, D0.atKey (.string s) q = .held (.int .u16 z)) :
    ∃ X' G', Inv B0 D0 (E.put (.string s) (.held (.int .u8 (vl z)))) X' G' bad (fun x => left x && !x.sameKey (.string s)) ∧ size G' = size G + (if bad s then 1 else 0) := by
  have hD : has D0 (.string s) = true := has_true_of_atKey hz
  have hself : (Lit.string s).sameKey (.string s) = true := WideAt.sameKey_self (a := .string s) trivial
  have hoth : ∀ r, r ≠ s → (Lit.string r).sameKey (.string s) = false := fun r hr => by
    cases hk : (Lit.string r).sameKey (.string s)
    · rfl
    · have e := WideAt.sameKey_eq hk
      simp only [Lit.string.injEq] at e
      exact absurd e hr
  have hEs : has E (.string s) = has B0 (.string s) := by rw [h.hE, hl]; simp
  have key : ∀ r, (has D0 (.string r) && !(left (.string r) && !(Lit.string r).sameKey (.string s))) = ((has D0 (.string r) && !left (.string r)) || decide (r = s)) := fun r => by
    by_cases e : r = s
    · subst e; rw [hself, hD]; simp
    · rw [hoth r e, decide_eq_false e]; simp
  obtain ⟨X', hX', hXs⟩ : ∃ X', SetOf X' (fun r => ((has D0 (.string r) && !left (.string r)) || decide (r = s)) && !has B0 (.string r)) ∧ size X' = size X + (if has B0 (.string s) then 0 else 1) := by
    cases hb : has B0 (.string s)
    · obtain ⟨a, b⟩ := h.sX.add (s := s) (p' := fun r => ((has D0 (.string r) && !left (.string r)) || decide (r = s)) && !has B0 (.string r)) (by rw [hl]; simp) (fun r => by
        by_cases e : r = s
        · subst e; rw [hb]; simp
        · rw [decide_eq_false e]; simp)
      exact ⟨_, a, b⟩
    · refine ⟨X, h.sX.congr fun r => ?_, rfl⟩
      by_cases e : r = s
      · subst e; rw [hb]; simp
      · rw [decide_eq_false e]; simp
  obtain ⟨G', hG', hGs⟩ : ∃ G', SetOf G' (fun r => ((has D0 (.string r) && !left (.string r)) || decide (r = s)) && bad r) ∧ size G' = size G + (if bad s then 1 else 0) := by
    cases hb : bad s
    · refine ⟨G, h.sG.congr fun r => ?_, rfl⟩
      by_cases e : r = s
      · subst e; rw [hb]; simp
      · rw [decide_eq_false e]; simp
    · obtain ⟨a, b⟩ := h.sG.add (s := s) (p' := fun r => ((has D0 (.string r) && !left (.string r)) || decide (r = s)) && bad r) (by rw [hl]; simp) (fun r => by
        by_cases e : r = s
        · subst e; rw [hb]; simp
        · rw [decide_eq_false e]; simp)
      exact ⟨_, a, b⟩
  refine ⟨X', G', ⟨fun r => ?_, fun r hr z' hz' zd => ?_, fun r hr zd => ?_, ?_, hX'.congr fun r => by rw [key], hG'.congr fun r => by rw [key]⟩, hGs⟩
  · rw [key]
    by_cases e : r = s
    · subst e; rw [has_put_same (k := .string r) hT.isMap trivial]; simp
    · rw [has_put_other (by simp; exact e), h.hE, decide_eq_false e]; simp
  · by_cases e : r = s
    · subst e
      rw [atKey_put_same (k := .string r) hT.isMap trivial]
      have := (hz .nil).symm.trans (hz' .nil)
      simp only [DataW.held.injEq, Value.int.injEq, true_and] at this
      rw [this]
    · rw [atKey_put_other (by simp; exact e)]
      rw [key, decide_eq_false e, Bool.or_false] at hr
      exact h.aN r hr z' hz' zd
  · have e : r ≠ s := fun e => by subst e; rw [key, decide_eq_true rfl, Bool.or_true] at hr; cases hr
    rw [atKey_put_other (by simp; exact e)]
    rw [key, decide_eq_false e, Bool.or_false] at hr
    exact h.aO r hr zd
  · rw [size_put hT, hEs, h.sE, hXs]
    cases has B0 (.string s) <;> simp <;> omega
/-- When nothing is left. -/
structure Fin (B0 D0 E : DV) (bad : List UInt8 → Bool) (m : Nat) : Prop where
  hE : ∀ s, has E (.string s) = (has B0 (.string s) || has D0 (.string s))
  aN : ∀ s, has D0 (.string s) = true → ∀ z : Int, (∀ q, D0.atKey (.string s) q = .held (.int .u16 z)) → ∀ zd, E.atKey (.string s) zd = .held (.int .u8 (vl z))
  aO : ∀ s, has D0 (.string s) = false → ∀ zd, E.atKey (.string s) zd = B0.atKey (.string s) zd
  sE : ∃ X, SetOf X (fun s => has D0 (.string s) && !has B0 (.string s)) ∧ size E = size B0 + size X
  sG : ∃ G, SetOf G (fun s => has D0 (.string s) && bad s) ∧ size G = m
theorem Inv.fin {B0 D0 E X G : DV} {bad : List UInt8 → Bool} {left : Lit → Bool} (h : Inv B0 D0 E X G bad left) (hl : ∀ k, left k = false) {m : Nat} (hm : size G = m) : Fin B0 D0 E bad m :=
  ⟨fun s => by rw [h.hE, hl]; simp, fun s hs => h.aN s (by rw [hs, hl]; rfl), fun s hs => h.aO s (by rw [hs]; rfl),
    ⟨X, h.sX.congr fun s => by rw [hl]; simp, h.sE⟩, ⟨G, h.sG.congr fun s => by rw [hl]; simp, hm⟩⟩
end Go.Proofs.YtobpghjknciobaeFmt.Ml
