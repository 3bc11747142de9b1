/-
  Proved: a map's block that answers as a function of string keys to the very values: made, kept, written, looked up with and without 'ok'; there is no further condition.
-/
import Derived.Maps.Own
import Derived.Maps.OwnSet
import Derived.Maps.Views
import Derived.StringKeys
import Derived.Below
import Derived.Carry
import Derived.Deep.QuietTactic
namespace Go.Proofs.YtobpghjknciobaeFmt.Mvs
open Go.Maps Go.WideMaps Go.WideShapes Go.RowKit

/-- an element reads as itself -/
def RV (v : Value) : Option (DataW Value × List MemPlace) := some (.held v, [])

/-- Block b of w is a map of at most n entries; it answers f. -/
def Mf (P : Program) (k : TypeId) (w : World) (b n : Nat) (f : ByteArray → Option Value) : Prop :=
  ∃ D : DataW Value, w.ownsMap P k RV b n D ∧ IsMap D ∧ ∀ (s : ByteArray) zd, D.atKey (.string s.data.toList) zd = match f s with | some v => .held v | none => zd

variable {P : Program} {k e t : TypeId} {w : World} {b n : Nat} {f : ByteArray → Option Value}

theorem str_inj {s r : ByteArray} (h : (Lit.string s.data.toList) = .string r.data.toList) : s = r := by
  cases s; cases r
  simp only [Lit.string.injEq, Array.toList_inj] at h
  rw [h]

theorem Mf.made (P : Program) (k : TypeId) (w : World) : Mf P k (w.alloc (.map #[] 0)) w.heap.size 0 (fun _ => none) :=
  ⟨.map [], World.ownsMap_made w P k RV, isMap_empty, fun _ _ => rfl⟩

theorem Mf.lt (h : Mf P k w b n f) : b < w.heap.size := by obtain ⟨D, h, _⟩ := h; exact h.lt

theorem Mf.mono (h : Mf P k w b n f) {m : Nat} (hm : n ≤ m) : Mf P k w b m f := by
  obtain ⟨D, h, h2⟩ := h; exact ⟨D, h.mono hm, h2⟩

theorem Mf.same (h : Mf P k w b n f) {w' : World} (hb : w'.heap[b]? = w.heap[b]?) : Mf P k w' b n f := by
  obtain ⟨D, ⟨es, clock, h1, h2⟩, h3⟩ := h
  exact ⟨D, ⟨es, clock, hb.trans h1, h2⟩, h3⟩

theorem Mf.congr (h : Mf P k w b n f) {g : ByteArray → Option Value} (hg : ∀ s, g s = f s) : Mf P k w b n g := by
  obtain rfl : g = f := funext hg
  exact h

theorem Mf.kept (h : Mf P k w b n f) {w' : World} {row : Option Nat} (hg : w.grownBy w' row) (hne : some b ≠ row) : Mf P k w' b n f := by
  obtain ⟨D, h, h2⟩ := h; exact ⟨D, h.kept hg hne, h2⟩

theorem Mf.below (h : Mf P k w b n f) {w' : World} {B : Nat} (hg : Below B w w') (hb : b < B) : Mf P k w' b n f := h.same (hg.block b hb)

theorem Mf.alloc (h : Mf P k w b n f) (o : Obj) : Mf P k (w.alloc o) b n f := h.same (Below.heap_alloc w o b h.lt)

theorem Mf.setCell (h : Mf P k w b n f) {p : Addr} (hp : b ≠ p.block) (u : Value) : Mf P k (w.setCell p u) b n f := h.same (Below.heap_setCell w p u b hp)

theorem Mf.drewN (h : Mf P k w b n f) (j : Nat) : Mf P k (w.drewN j) b n f := h

theorem Mf.look_ok (h : Mf P k w b n f) (hk : P.underlying k = some .string) (ht : P.underlying t = some (.map k e)) {z : Value} (hz : (zeroValue e).run P w = .ok z w) {s : ByteArray} (hs : s.size ≤ maxLen) :
    (Instr.lookup t (.map (some b)) (.string s) true).run P w = .ok (.tuple #[(f s).getD z, .bool (f s).isSome]) w := by
  obtain ⟨D, ⟨es, clock, hb, F, _, rfl⟩, _, hD⟩ := h
  rcases fit_look true (string_keyed hk) ht hz hb F (keyOf_string_mk hk hs) with ⟨hrun, _, hat⟩ | ⟨e0, y, _, _, hrun, hRv, hat, _⟩
  · have h1 := hat .nil
    rw [hD] at h1
    cases hf : f s with
    | none => simpa using hrun
    | some v => rw [hf] at h1; simp at h1
  · have h1 := hat .nil
    rw [hD] at h1
    cases hf : f s with
    | none =>
      rw [hf] at h1
      simp only [RV, Option.some.injEq] at hRv
      rw [← hRv] at h1; simp at h1
    | some v =>
      rw [hf] at h1
      simp only [RV, Option.some.injEq] at hRv
      rw [← hRv] at h1
      simp only [DataW.held.injEq] at h1
      subst h1
      simpa using hrun

theorem Mf.look (h : Mf P k w b n f) (hk : P.underlying k = some .string) (ht : P.underlying t = some (.map k e)) {z : Value} (hz : (zeroValue e).run P w = .ok z w) {s : ByteArray} (hs : s.size ≤ maxLen) :
    (Instr.lookup t (.map (some b)) (.string s) false).run P w = .ok ((f s).getD z) w := by
  obtain ⟨D, ⟨es, clock, hb, F, _, rfl⟩, _, hD⟩ := h
  rcases fit_look false (string_keyed hk) ht hz hb F (keyOf_string_mk hk hs) with ⟨hrun, _, hat⟩ | ⟨e0, y, _, _, hrun, hRv, hat, _⟩
  · have h1 := hat .nil
    rw [hD] at h1
    cases hf : f s with
    | none => simpa using hrun
    | some v => rw [hf] at h1; simp at h1
  · have h1 := hat .nil
    rw [hD] at h1
    cases hf : f s with
    | none =>
      rw [hf] at h1
      simp only [RV, Option.some.injEq] at hRv
      rw [← hRv] at h1; simp at h1
    | some v =>
      rw [hf] at h1
      simp only [RV, Option.some.injEq] at hRv
      rw [← hRv] at h1
      simp only [DataW.held.injEq] at h1
      subst h1
      simpa using hrun

theorem Mf.update (h : Mf P k w b n f) (hk : P.underlying k = some .string) (ht : P.underlying t = some (.map k e)) (hn : n < maxLen) {s : ByteArray} (hs : s.size ≤ maxLen) (v : Value) :
    ∃ w', (Instr.mapUpdate t (.map (some b)) (.string s) v).run P w = .ok () w' ∧ Mf P k w' b (n + 1) (fun r => if r = s then some v else f r) ∧ w.grownBy w' (some b) := by
  obtain ⟨D, h, hm, hD⟩ := h
  obtain ⟨w', r1, r2, r3⟩ := h.update (string_keyed hk) ht hn (keyOf_string_mk hk hs) (val := v) (d := .held v) (ps := []) rfl
  refine ⟨w', r1, ⟨_, r2, hm.put _ _, fun r zd => ?_⟩, r3⟩
  by_cases hr : r = s
  · subst hr
    rw [atKey_put_same (k := .string r.data.toList) hm trivial]
    simp
  · rw [atKey_put_other (fun e => hr (str_inj e)), hD]
    simp [hr]
end Go.Proofs.YtobpghjknciobaeFmt.Mvs
