/-
  Plain mathematics of symbols cut into sources: prefix sums, the place of a flat index, sums of lists. No program in sight, no condition.
-/
import Derived.Lib.Hide
namespace Go.Proofs.YtbppncnhdhogbaaDoor.Pl
set_option linter.unusedVariables false
/-- The sum of the first k counts. -/
def P (C : Nat → Nat) : Nat → Nat
  | 0 => 0
  | k + 1 => P C k + C k
theorem P_mono (C : Nat → Nat) {a : Nat} : ∀ {b : Nat}, a ≤ b → P C a ≤ P C b
  | 0, h => by obtain rfl : a = 0 := by omega
               exact Nat.le_refl _
  | b + 1, h => by
    by_cases e : a = b + 1
    · subst e; exact Nat.le_refl _
    · have := P_mono C (a := a) (b := b) (by omega)
      show P C a ≤ P C b + C b
      omega
theorem P_at (C : Nat → Nat) {a m : Nat} (h : a < m) : P C a + C a ≤ P C m := P_mono C (a := a + 1) (b := m) h
/-- The place of flat index i. -/
def Lc (C : Nat → Nat) (m : Nat) (i s r : Nat) : Prop := s < m ∧ r < C s ∧ P C s + r = i
theorem loc_ex (C : Nat → Nat) : ∀ m i, i < P C m → ∃ s r, Lc C m i s r
  | 0, i, h => by simp [P] at h
  | m + 1, i, h => by
    by_cases hi : i < P C m
    · obtain ⟨s, r, h1, h2, h3⟩ := loc_ex C m i hi
      exact ⟨s, r, by omega, h2, h3⟩
    · refine ⟨m, i - P C m, by omega, ?_, by omega⟩
      have : i < P C m + C m := h
      omega
theorem loc_uniq {C : Nat → Nat} {m i s r s' r' : Nat} (h : Lc C m i s r) (h' : Lc C m i s' r') : s = s' ∧ r = r' := by
  obtain ⟨h1, h2, h3⟩ := h
  obtain ⟨g1, g2, g3⟩ := h'
  have e : s = s' := by
    rcases Nat.lt_trichotomy s s' with hh | hh | hh
    · have := P_at C hh; omega
    · exact hh
    · have := P_at C hh; omega
  subst e
  exact ⟨rfl, by omega⟩
theorem Lc.lt {C : Nat → Nat} {m i s r : Nat} (h : Lc C m i s r) : i < P C m := by
  have := P_at C h.1
  have := h.2.1
  have := h.2.2
  omega
theorem loc_mk {C : Nat → Nat} {m s r : Nat} (h1 : s < m) (h2 : r < C s) : Lc C m (P C s + r) s r := ⟨h1, h2, rfl⟩
theorem locs (C : Nat → Nat) (m n : Nat) (hn : P C m = n) : ∃ X Y : Nat → Nat, ∀ i, i < n → Lc C m i (X i) (Y i) := by
  refine ⟨fun i => if h : i < P C m then (loc_ex C m i h).choose else 0, fun i => if h : i < P C m then (loc_ex C m i h).choose_spec.choose else 0, fun i hi => ?_⟩
  have h : i < P C m := by omega
  simp only [dif_pos h]
  exact (loc_ex C m i h).choose_spec.choose_spec
/-! Sums of lists of integers. -/
def tot : List Int → Int
  | [] => 0
  | x :: r => x + tot r
theorem tot_snoc : ∀ (l : List Int) (x : Int), tot (l ++ [x]) = tot l + x
  | [], x => by simp [tot]
  | y :: r, x => by simp [tot, tot_snoc r x]; omega
/-- The counts of a list. -/
def cnt (l : List Int) (j : Nat) : Nat := (l.getD j 0).toNat
theorem P_congr {C D : Nat → Nat} : ∀ k, (∀ j, j < k → C j = D j) → P C k = P D k
  | 0, _ => rfl
  | k + 1, h => by
    show P C k + C k = P D k + D k
    rw [P_congr k fun j hj => h j (by omega), h k (by omega)]
theorem cnt_snoc (l : List Int) (x : Int) (j : Nat) (hj : j < l.length) : cnt (l ++ [x]) j = cnt l j := by
  unfold cnt
  rw [List.getD_eq_getElem?_getD, List.getD_eq_getElem?_getD, List.getElem?_append_left hj]
theorem P_cnt : ∀ (k : Nat) (l : List Int), l.length = k → (∀ x ∈ l, 0 ≤ x) → (P (cnt l) k : Int) = tot l
  | 0, l, h, _ => by
    have : l = [] := List.length_eq_zero_iff.1 h
    subst this
    rfl
  | k + 1, l, h, h0 => by
    rcases List.eq_nil_or_concat l with e | ⟨r, x, e⟩
    · subst e; simp at h
    · have e' : l = r ++ [x] := by simpa using e
      subst e'
      have hr : r.length = k := by simpa using h
      have ih := P_cnt k r hr fun y hy => h0 y (by simp [hy])
      have hx : 0 ≤ x := h0 x (by simp)
      rw [tot_snoc, ← ih]
      have e1 : P (cnt (r ++ [x])) k = P (cnt r) k := P_congr k fun j hj => cnt_snoc r x j (by omega)
      have e2 : cnt (r ++ [x]) k = x.toNat := by
        unfold cnt
        rw [List.getD_eq_getElem?_getD, List.getElem?_append_right (by omega)]
        simp [hr]
      show ((P (cnt (r ++ [x])) k + cnt (r ++ [x]) k : Nat) : Int) = _
      rw [e1, e2]
      omega
theorem cnt_val (l : List Int) (j : Nat) (hj : j < l.length) (h0 : ∀ x ∈ l, 0 ≤ x) : (cnt l j : Int) = l[j] := by
  unfold cnt
  rw [List.getD_eq_getElem?_getD, List.getElem?_eq_getElem hj]
  have := h0 l[j] (List.getElem_mem hj)
  simp
  omega
end Go.Proofs.YtbppncnhdhogbaaDoor.Pl
