/-
  An argument of type [][]string, opened to a slice of slices that read as functions of the indexes. No condition.
-/
import Derived.Test.YtjfegbkbhbhcoaaMem
namespace Go.Proofs.Ytjfegbkbhbhcoaa.Osr
open Go.RowKit Go.ChangeShapes Go.WideShapes Go.Deep Mem
variable {H : Type} {enc : TypeId × Value → H} {P : Program} {w : World}
/-- The slice v of strings reads as S. -/
def Srow (w : World) (v : Value) (x : Option Addr × Nat × Nat × (Nat → ByteArray)) : Prop :=
  v = .slice x.1 x.2.1 x.2.2.1 ∧ x.2.1 ≤ x.2.2.1 ∧ x.2.2.1 ≤ maxLen ∧ Rd w w.heap.size 1 x.1 x.2.1 (fun j => .string (x.2.2.2 j)) ∧ ∀ j, j < x.2.1 → (x.2.2.2 j).size ≤ maxLen
theorem open_row {e q : TypeId} {fuel : Nat} {v : Value} {y : DataW H × List MemPlace} (he : P.underlying e = some (.slice q)) (hq : P.underlying q = some .string) (hc : P.cellsOf q = 1)
    (h : DataW.trod enc P w 0 (fun _ => true) true fuel e [v] = some y) : ∃ x, Srow w v x := by
  rcases open_strs he hq hc h with ⟨hcs, _⟩ | ⟨a, len, cap, m, S, hcs, _, hl, hm, hmm, _, hx⟩
  · have hv : v = .slice none 0 0 := by simpa using hcs
    exact ⟨(none, 0, 0, fun _ => ByteArray.empty), hv, Nat.le_refl _, Nat.zero_le _, Rd.zero _ _ _ _ _, fun j hj => absurd hj (by show ¬ j < 0; omega)⟩
  · have hv : v = .slice (some a) len cap := by simpa using hcs
    have hmc : m = cap := by simpa using hmm
    subst hmc
    refine ⟨(some a, len, m, S), hv, hl, hm, ?_, fun j hj => (hx j (Nat.lt_of_lt_of_le hj hl)).2⟩
    intro hn
    have hn' : 0 < len := hn
    obtain ⟨b, off, spot⟩ := a
    have hspot : spot = none := by simpa [Addr.add] using World.cell?_spot (hx 0 (by omega)).1
    subst hspot
    have e0 : ∀ j, (⟨b, off, none⟩ : Addr).add j = ⟨b, off + j, none⟩ := fun j => add_none b off j
    refine ⟨b, off, rfl, ?_, fun j hj => by rw [← e0]; exact (hx j (by have h1 : j < len * 1 := hj; omega)).1⟩
    have h0 := (hx 0 (by omega)).1
    rw [e0] at h0
    exact World.block_lt_of_cell? w _ h0
theorem open_str_rows {t e q : TypeId} {v : Value} {d : DataW H} {ps : List MemPlace} {b0 : Nat} (ht : P.underlying t = some (.slice e)) (he : P.underlying e = some (.slice q)) (hq : P.underlying q = some .string) (ce : P.cellsOf e = 1) (cq : P.cellsOf q = 1)
    (hval : Value.okWide P w .any b0 t v) (h : DataW.Trod enc P w 0 (fun _ => true) true t v d ps) :
    ∃ (A : Option Addr) (n c : Nat) (X : Nat → Option Addr × Nat × Nat × (Nat → ByteArray)), v = .slice A n c ∧ n ≤ c ∧ c ≤ maxLen ∧ (A = none → n = 0 ∧ c = 0) ∧ Rd w w.heap.size 1 A n (fun i => .slice (X i).1 (X i).2.1 (X i).2.2.1) ∧
      ∀ i, i < n → (X i).2.1 ≤ (X i).2.2.1 ∧ (X i).2.2.1 ≤ maxLen ∧ Rd w w.heap.size 1 (X i).1 (X i).2.1 (fun j => .string ((X i).2.2.2 j)) ∧ ∀ j, j < (X i).2.1 → ((X i).2.2.2 j).size ≤ maxLen := by
  obtain ⟨A, n, c, rfl⟩ : ∃ A n c, v = .slice A n c := by
    cases v <;> simp [Value.okWide, ht, Cell.okWide, Cell.ok] at hval ⊢
  obtain ⟨fuel, hf⟩ := h
  rcases open_slice1 ht ce hf with ⟨hcs, _⟩ | ⟨a, len, cap, m, fu, V, D, Pl, hcs, _, hl, hm, hmm, _, hx⟩
  · simp [Value.cells] at hcs
    obtain ⟨rfl, rfl, rfl⟩ := hcs
    exact ⟨none, 0, 0, fun _ => (none, 0, 0, fun _ => ByteArray.empty), rfl, Nat.le_refl _, by unfold maxLen; omega, fun _ => ⟨rfl, rfl⟩, Rd.zero _ _ _ _ _, fun i hi => absurd hi (by omega)⟩
  · simp [Value.cells] at hcs
    obtain ⟨rfl, rfl, rfl⟩ := hcs
    have hmc : m = c := by simpa using hmm
    subst hmc
    obtain ⟨X, hX⟩ := choose_lt (n := m) (p := fun i x => Srow w (V i) x) (fun i hi => open_row he hq cq (hx i hi).2)
    refine ⟨some a, n, m, X, rfl, hl, hm, (fun h => by cases h), ?_, fun i hi => (hX i (by omega)).2⟩
    intro hn
    obtain ⟨b, off, spot⟩ := a
    have hspot : spot = none := by simpa [Addr.add] using World.cell?_spot (hx 0 (by omega)).1
    subst hspot
    have e0 : ∀ j, (⟨b, off, none⟩ : Addr).add j = ⟨b, off + j, none⟩ := fun j => add_none b off j
    refine ⟨b, off, rfl, ?_, fun j hj => by rw [← e0, (hx j (by omega)).1, (hX j (by omega)).1]⟩
    have h0 := (hx 0 (by omega)).1
    rw [e0] at h0
    exact World.block_lt_of_cell? w _ h0
end Go.Proofs.Ytjfegbkbhbhcoaa.Osr
