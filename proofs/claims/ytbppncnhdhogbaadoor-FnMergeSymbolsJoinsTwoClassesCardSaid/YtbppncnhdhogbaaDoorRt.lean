/-
  Plain mathematics of link forests: the end of a chain of links as an inductive relation with its depth. Proved: it is unique; it stays when links are shortened to their ends; the memoised walk's steps. No program in sight, no condition.
-/
import Derived.Lib.Hide
namespace Go.Proofs.YtbppncnhdhogbaaDoor.Rt
set_option linter.unusedVariables false
/-- From i, by k links, one comes to r, which has no link. -/
inductive Ch (T : Nat → Int) : Nat → Nat → Nat → Prop
  | stop (i : Nat) (h : T i < 0) : Ch T 0 i i
  | step (k i r : Nat) (h : 0 ≤ T i) (c : Ch T k (T i).toNat r) : Ch T (k + 1) i r
theorem Ch.uniq {T : Nat → Int} {k i r : Nat} (h : Ch T k i r) : ∀ {k' r' : Nat}, Ch T k' i r' → k = k' ∧ r = r' := by
  induction h with
  | stop i h =>
    intro k' r' h'
    cases h' with
    | stop _ _ => exact ⟨rfl, rfl⟩
    | step _ _ _ h2 _ => omega
  | step k i r h c ih =>
    intro k' r' h'
    cases h' with
    | stop _ h2 => omega
    | step k2 _ _ h2 c2 =>
      obtain ⟨e1, e2⟩ := ih c2
      exact ⟨by omega, e2⟩
theorem Ch.last {T : Nat → Int} {k i r : Nat} (h : Ch T k i r) : T r < 0 := by
  induction h with
  | stop i h => exact h
  | step k i r h c ih => exact ih
theorem Ch.self {T : Nat → Int} {k i r : Nat} (h : Ch T k i r) (hi : T i < 0) : r = i := by
  cases h with
  | stop _ _ => rfl
  | step _ _ _ h2 _ => omega
theorem Ch.next {T : Nat → Int} {k i r : Nat} (h : Ch T k i r) (hi : 0 ≤ T i) : ∃ j, k = j + 1 ∧ Ch T j (T i).toNat r := by
  cases h with
  | stop _ h2 => omega
  | step j _ _ _ c => exact ⟨j, rfl, c⟩
theorem Ch.end_ne {T : Nat → Int} {k i r : Nat} (h : Ch T k i r) (hi : 0 ≤ T i) : r ≠ i := by
  intro e
  have := h.last
  rw [e] at this
  omega
/-- Links in range. -/
def Rng (n : Nat) (T : Nat → Int) : Prop := ∀ i, i < n → T i < (n : Int)
theorem Ch.lt {T : Nat → Int} {k i r n : Nat} (h : Ch T k i r) (hT : Rng n T) (hi : i < n) : r < n := by
  induction h with
  | stop i h => exact hi
  | step k i r h c ih => exact ih (by have := hT i hi; omega)
/-- Links shortened: each is as it was or leads to its chain's end. -/
theorem Ch.short {T T' : Nat → Int} {R : Nat → Nat} {n : Nat} (hT : Rng n T) (hR : ∀ i, i < n → ∃ k, Ch T k i (R i)) (h : ∀ i, i < n → T' i = T i ∨ (0 ≤ T i ∧ T' i = (R i : Int))) {k i r : Nat} (hc : Ch T k i r) (hi : i < n) : ∃ k', Ch T' k' i r := by
  induction hc with
  | stop i h0 =>
    rcases h i hi with e | ⟨e, _⟩
    · exact ⟨0, .stop i (by omega)⟩
    · omega
  | step k i r h0 c ih =>
    rcases h i hi with e | ⟨e1, e2⟩
    · obtain ⟨k', c'⟩ := ih (by have := hT i hi; omega)
      exact ⟨k' + 1, .step k' i r (by omega) (by rw [e]; exact c')⟩
    · obtain ⟨k2, c2⟩ := hR i hi
      have hr : r = R i := ((Ch.step k i r h0 c).uniq c2).2
      have hrn : r < n := (Ch.step k i r h0 c).lt hT hi
      have hl := (Ch.step k i r h0 c).last
      refine ⟨0 + 1, .step 0 i r (by omega) ?_⟩
      rw [e2, Int.toNat_natCast, ← hr]
      refine .stop r ?_
      rcases h r hrn with e | ⟨e, _⟩
      · omega
      · omega
/-- The walk's path: each of its nodes lies before x on a chain. -/
def Path (T : Nat → Int) (P : List Nat) (x : Nat) : Prop := ∀ p ∈ P, ∀ k r, Ch T k x r → ∃ k', k < k' ∧ Ch T k' p r
theorem Path.nil (T : Nat → Int) (x : Nat) : Path T [] x := fun p hp => absurd hp (by simp)
theorem Path.no {T : Nat → Int} {P : List Nat} {x : Nat} (h : Path T P x) (hx : x ∈ P) : ¬ ∃ k r, Ch T k x r := fun ⟨k, r, hc⟩ => by
  obtain ⟨k', hk, hc'⟩ := h x hx k r hc
  have := (hc.uniq hc').1
  omega
theorem Path.snoc {T : Nat → Int} {P : List Nat} {x : Nat} (h : Path T P x) (hx : 0 ≤ T x) : Path T (P ++ [x]) (T x).toNat := by
  intro p hp k r hc
  have hs := Ch.step k x r hx hc
  rcases List.mem_append.1 hp with h1 | h1
  · obtain ⟨k', hk, hc'⟩ := h p h1 _ _ hs
    exact ⟨k', by omega, hc'⟩
  · simp at h1
    subst h1
    exact ⟨k + 1, by omega, hs⟩
theorem Path.ends {T : Nat → Int} {P : List Nat} {x k r : Nat} (h : Path T P x) (hc : Ch T k x r) : ∀ p ∈ P, ∃ k', Ch T k' p r := fun p hp => by
  obtain ⟨k', _, hc'⟩ := h p hp k r hc
  exact ⟨k', hc'⟩
theorem Path.ends_snoc {T : Nat → Int} {P : List Nat} {x : Nat} (h : Path T P x) (hx : T x < 0) : ∀ p ∈ P ++ [x], ∃ k', Ch T k' p x := fun p hp => by
  rcases List.mem_append.1 hp with h1 | h1
  · exact h.ends (.stop x hx) p h1
  · simp at h1
    subst h1
    exact ⟨0, .stop p hx⟩
/-- Every chain has an end. -/
def Acy (n : Nat) (T : Nat → Int) : Prop := ∀ i, i < n → ∃ k r, Ch T k i r
def ChE (n : Nat) (T : Nat → Int) (R : Nat → Nat) : Prop := ∀ i, i < n → ∃ k, Ch T k i (R i)
theorem ChE.acy {n : Nat} {T : Nat → Int} {R : Nat → Nat} (h : ChE n T R) : Acy n T := fun i hi => by
  obtain ⟨k, c⟩ := h i hi
  exact ⟨k, _, c⟩
theorem ChE.uniq {n : Nat} {T : Nat → Int} {R R' : Nat → Nat} (h : ChE n T R) (h' : ChE n T R') {i : Nat} (hi : i < n) : R i = R' i := by
  obtain ⟨k, c⟩ := h i hi
  obtain ⟨k', c'⟩ := h' i hi
  exact (c.uniq c').2
theorem ChE.lt {n : Nat} {T : Nat → Int} {R : Nat → Nat} (h : ChE n T R) (hT : Rng n T) {i : Nat} (hi : i < n) : R i < n := by
  obtain ⟨k, c⟩ := h i hi
  exact c.lt hT hi
end Go.Proofs.YtbppncnhdhogbaaDoor.Rt
