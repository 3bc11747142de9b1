/-
  An argument of type []bool, opened to a slice that reads as a function of the index. No condition.
-/
import Derived.Test.YtobpghjknciobabMem
import Derived.Deep.Grids
namespace Go.Proofs.Ytobpghjknciobab.Opb
open Go.RowKit Go.ChangeShapes Go.WideShapes Go.Deep Mem
variable {H : Type} {enc : TypeId × Value → H} {P : Program} {w : World}
theorem open_bools' {t e : TypeId} {v : Value} {d : DataW H} {ps : List MemPlace} {b0 : Nat} (ht : P.underlying t = some (.slice e)) (he : P.underlying e = some .bool) (hc : P.cellsOf e = 1)
    (hval : Value.okWide P w .any b0 t v) (h : DataW.Trod enc P w 0 (fun _ => true) true t v d ps) :
    ∃ (A : Option Addr) (n c : Nat) (Z : Nat → Bool), v = .slice A n c ∧ n ≤ c ∧ c ≤ maxLen ∧ (A = none → n = 0 ∧ c = 0) ∧ Rd w w.heap.size 1 A n (fun j => .bool (Z j)) := by
  obtain ⟨A, n, c, rfl⟩ : ∃ A n c, v = .slice A n c := by
    cases v <;> simp [Value.okWide, ht, Cell.okWide, Cell.ok] at hval ⊢
  obtain ⟨fuel, hf⟩ := h
  rcases open_bools ht he hc hf with ⟨hcs, _⟩ | ⟨a, len, cap, Z, hcs, _, hl, hm, _, hx⟩
  · simp [Value.cells] at hcs
    obtain ⟨rfl, rfl, rfl⟩ := hcs
    exact ⟨none, 0, 0, fun _ => false, rfl, Nat.le_refl _, by unfold maxLen; omega, fun _ => ⟨rfl, rfl⟩, Rd.zero _ _ _ _ _⟩
  · simp [Value.cells] at hcs
    obtain ⟨rfl, rfl, rfl⟩ := hcs
    refine ⟨some a, n, c, Z, rfl, hl, hm, (fun h => by cases h), ?_⟩
    intro hn
    obtain ⟨b, off, spot⟩ := a
    have hspot : spot = none := by simpa [Addr.add] using World.cell?_spot (hx 0 (by omega))
    subst hspot
    have e0 : ∀ j, (⟨b, off, none⟩ : Addr).add j = ⟨b, off + j, none⟩ := fun j => add_none b off j
    refine ⟨b, off, rfl, ?_, fun j hj => by rw [← e0]; exact hx j (by omega)⟩
    have h0 := hx 0 (by omega)
    rw [e0] at h0
    rcases Nat.lt_or_ge b w.heap.size with hlt | hge
    · exact hlt
    · exfalso
      have : w.heap[b]? = none := Array.getElem?_eq_none hge
      simp [World.cell?, this] at h0
end Go.Proofs.Ytobpghjknciobab.Opb
