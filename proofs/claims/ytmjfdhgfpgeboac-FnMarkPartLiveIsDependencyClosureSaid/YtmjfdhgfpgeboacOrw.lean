/-
  An argument (or a field) that is a slice of structs of K cells, opened to rows of cells; what each row reads as is handed to the reader's own law. No condition.
-/
import Derived.Test.YtmjfdhgfpgeboacMem
namespace Go.Proofs.Ytmjfdhgfpgeboac.Orw
open Go.RowKit Go.ChangeShapes Go.WideShapes Go.Deep Mem
variable {H : Type} {enc : TypeId × Value → H} {P : Program} {w : World}
/-- The cell l of rows of K cells. -/
def rowF (K : Nat) (X : Nat → List Value) (l : Nat) : Value := (X (l / K)).getD (l % K) undef
theorem rowF_at {K : Nat} {X : Nat → List Value} {i q : Nat} (hq : q < K) : rowF K X (i * K + q) = (X i).getD q undef := by
  have hK : 0 < K := by omega
  have h1 : (i * K + q) / K = i := by rw [Nat.mul_comm, Nat.mul_add_div hK, Nat.div_eq_of_lt hq, Nat.add_zero]
  have h2 : (i * K + q) % K = q := by rw [Nat.mul_comm, Nat.mul_add_mod, Nat.mod_eq_of_lt hq]
  unfold rowF
  rw [h1, h2]
theorem open_rowsK {t e : TypeId} {K fuel : Nat} {v : Value} {y : DataW H × List MemPlace} (ht : P.underlying t = some (.slice e)) (hc : P.cellsOf e = K) (hK : 0 < K) {R : List Value → Prop}
    (hR : ∀ fu cs z, DataW.trod enc P w 0 (fun _ => true) true fu e cs = some z → cs.length = K → R cs) (h : DataW.trod enc P w 0 (fun _ => true) true fuel t [v] = some y) :
    ∃ (A : Option Addr) (n c : Nat) (X : Nat → List Value), v = .slice A n c ∧ n ≤ c ∧ c ≤ maxLen ∧ (A = none → n = 0 ∧ c = 0) ∧ Rd w w.heap.size K A n (rowF K X) ∧ ∀ i, i < n → (X i).length = K ∧ R (X i) := by
  rcases open_slice ht h with ⟨hcs, _⟩ | ⟨a, len, cap, m, fu, D, Pl, hcs, _, hl, hm, hmm, _, hx⟩
  · have hv : v = .slice none 0 0 := by simpa using hcs
    exact ⟨none, 0, 0, fun _ => [], hv, Nat.le_refl _, Nat.zero_le _, fun _ => ⟨rfl, rfl⟩, Rd.zero _ _ _ _ _, fun i hi => absurd hi (by omega)⟩
  · have hv : v = .slice (some a) len cap := by simpa using hcs
    have hmc : m = cap := by simpa using hmm
    subst hmc
    rw [hc] at hx
    obtain ⟨X, hX⟩ := choose_lt (α := List Value) (n := m) (p := fun i cs => w.cells? 0 (a.add (i * K)) K = some cs ∧ DataW.trod enc P w 0 (fun _ => true) true fu e cs = some (D i, Pl i)) hx
    refine ⟨some a, len, m, X, hv, hl, hm, (fun h => by cases h), ?_, fun i hi => ?_⟩
    · intro hn
      have hc0 : ∀ i q, i < m → q < K → w.cell? ((a.add (i * K)).add q) = (X i)[q]? := fun i q hi hq => (World.cells?_some (hX i hi).1).2.2 q hq
      have hl0 : ∀ i, i < m → (X i).length = K := fun i hi => (World.cells?_some (hX i hi).1).2.1
      have hg : ∀ i q, i < m → q < K → w.cell? ((a.add (i * K)).add q) = some (rowF K X (i * K + q)) := fun i q hi hq => by
        rw [hc0 i q hi hq, rowF_at hq, List.getD_eq_getElem?_getD, List.getElem?_eq_getElem (by rw [hl0 i hi]; exact hq)]
        rfl
      obtain ⟨b, off, spot⟩ := a
      have hspot : spot = none := by
        have := World.cell?_spot (hg 0 0 (by omega) hK)
        simpa [Addr.add] using this
      subst hspot
      have e0 : ∀ o j, (⟨b, o, none⟩ : Addr).add j = ⟨b, o + j, none⟩ := fun o j => add_none b o j
      refine ⟨b, off, rfl, ?_, fun j hj => ?_⟩
      · have h0 := hg 0 0 (by omega) hK
        rw [e0, e0] at h0
        exact World.block_lt_of_cell? w _ h0
      · have hjd : j / K < len := by rw [Nat.div_lt_iff_lt_mul hK]; exact hj
        have h1 := hg (j / K) (j % K) (by omega) (Nat.mod_lt _ hK)
        rw [e0, e0, Nat.add_assoc, Nat.div_add_mod'] at h1
        exact h1
    · have hi' : i < m := by omega
      exact ⟨(World.cells?_some (hX i hi').1).2.1, hR fu _ _ (hX i hi').2 (World.cells?_some (hX i hi').1).2.1⟩
end Go.Proofs.Ytmjfdhgfpgeboac.Orw
