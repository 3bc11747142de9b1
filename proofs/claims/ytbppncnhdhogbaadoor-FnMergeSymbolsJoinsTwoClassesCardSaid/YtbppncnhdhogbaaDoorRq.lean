/-
  Plain mathematics of the memoised walk: states 0, 1, 2 of the nodes; what is left to visit. No program in sight, no condition.
-/
import Derived.Test.YtbppncnhdhogbaaDoorRt
namespace Go.Proofs.YtbppncnhdhogbaaDoor.Rq
open Rt
set_option linter.unusedVariables false
def up (F : Nat → Int) (o : Nat) (x : Int) (j : Nat) : Int := if j = o then x else F j
/-- Filled with x at the places of l. -/
def fl (F : Nat → Int) (l : List Nat) (x : Int) (j : Nat) : Int := if j ∈ l then x else F j
theorem fl_nil (F : Nat → Int) (x : Int) : fl F [] x = F := by funext j; simp [fl]
theorem fl_snoc (F : Nat → Int) (l : List Nat) (x : Int) (o : Nat) : up (fl F l x) o x = fl F (l ++ [o]) x := by
  funext j
  unfold up fl
  by_cases h : j = o
  · subst h; simp
  · rw [if_neg h]
    by_cases h2 : j ∈ l
    · rw [if_pos h2, if_pos (by simp [h2])]
    · rw [if_neg h2, if_neg (by simp [h2, h])]
theorem fl_in {F : Nat → Int} {l : List Nat} {x : Int} {j : Nat} (h : j ∈ l) : fl F l x j = x := by unfold fl; rw [if_pos h]
theorem fl_out {F : Nat → Int} {l : List Nat} {x : Int} {j : Nat} (h : j ∉ l) : fl F l x j = F j := by unfold fl; rw [if_neg h]
/-- Nodes below n whose state is 0. -/
def zc (S : Nat → Int) : Nat → Nat
  | 0 => 0
  | n + 1 => zc S n + if S n = 0 then 1 else 0
theorem zc_le (S : Nat → Int) : ∀ n, zc S n ≤ n
  | 0 => Nat.le_refl _
  | n + 1 => by
    have := zc_le S n
    show zc S n + _ ≤ n + 1
    split <;> omega
theorem zc_congr {S S' : Nat → Int} : ∀ n, (∀ j, j < n → S j = S' j) → zc S n = zc S' n
  | 0, _ => rfl
  | n + 1, h => by
    show zc S n + _ = zc S' n + _
    rw [zc_congr n fun j hj => h j (by omega), h n (by omega)]
theorem zc_up {S : Nat → Int} {o : Nat} {x : Int} (hx : x ≠ 0) (h0 : S o = 0) : ∀ n, o < n → zc (up S o x) n + 1 = zc S n
  | 0, h => by omega
  | n + 1, h => by
    show zc (up S o x) n + _ + 1 = zc S n + _
    by_cases e : o = n
    · subst e
      have h1 : up S o x o = x := by unfold up; rw [if_pos rfl]
      rw [h1, if_neg hx, if_pos h0, zc_congr (S := up S o x) (S' := S) o fun j hj => by unfold up; rw [if_neg (by omega)]]
    · have h1 : up S o x n = S n := by unfold up; rw [if_neg (by omega)]
      have := zc_up hx h0 n (by omega)
      rw [h1]
      omega
/-- What has been found: states 0 and 2; the first k are 2; where the state is 2 the answer stands. -/
structure Dn (n : Nat) (T S Q : Nat → Int) (k : Nat) : Prop where
  st : ∀ j, j < n → S j = 0 ∨ S j = 2
  fst : ∀ j, j < k → S j = 2
  val : ∀ j, j < n → S j = 2 → ∃ r : Nat, r < n ∧ Q j = (r : Int) ∧ ∃ d, Ch T d j r
/-- The state on the path l from k, at x. -/
structure Pt (n : Nat) (T S0 S : Nat → Int) (k : Nat) (l : List Nat) (x : Nat) : Prop where
  st : S = fl S0 l 1
  lt : x < n
  inl : ∀ p ∈ l, p < n
  path : Path T l x
  zcl : zc S n + l.length ≤ n
  fst : (x = k ∧ l = []) ∨ k ∈ l
theorem Pt.start {n : Nat} {T S : Nat → Int} {k : Nat} (hk : k < n) : Pt n T S S k [] k :=
  ⟨(fl_nil S 1).symm, hk, fun p hp => absurd hp (by simp), Path.nil T k, by have := zc_le S n; simp; omega, .inl ⟨rfl, rfl⟩⟩
theorem Pt.next {n : Nat} {T S0 S : Nat → Int} {k : Nat} {l : List Nat} {x : Nat} (h : Pt n T S0 S k l x) (h0 : S x = 0) (hT : 0 ≤ T x) (hn : T x < (n : Int)) : Pt n T S0 (up S x 1) k (l ++ [x]) (T x).toNat := by
  refine ⟨by rw [h.st, fl_snoc], by omega, fun p hp => ?_, h.path.snoc hT, ?_, .inr ?_⟩
  · rcases List.mem_append.1 hp with e | e
    · exact h.inl p e
    · simp at e; subst e; exact h.lt
  · have := zc_up (x := 1) (by omega) h0 n h.lt
    have := h.zcl
    simp
    omega
  · rcases h.fst with ⟨e, _⟩ | e
    · subst e; simp
    · simp [e]
theorem Pt.len {n : Nat} {T S0 S : Nat → Int} {k : Nat} {l : List Nat} {x : Nat} (h : Pt n T S0 S k l x) (h0 : S x = 0) : l.length < n := by
  have := zc_up (x := 1) (by omega) h0 n h.lt
  have := h.zcl
  omega
theorem Pt.le {n : Nat} {T S0 S : Nat → Int} {k : Nat} {l : List Nat} {x : Nat} (h : Pt n T S0 S k l x) : l.length ≤ n := by
  have := h.zcl
  omega
/-- On a cycle. -/
theorem Pt.cyc {n : Nat} {T S0 S Q : Nat → Int} {k : Nat} {l : List Nat} {x : Nat} (h : Pt n T S0 S k l x) (hd : Dn n T S0 Q k) (h1 : S x = 1) : ∃ i, i < n ∧ ¬ ∃ d r, Ch T d i r := by
  refine ⟨x, h.lt, h.path.no ?_⟩
  rw [h.st] at h1
  by_cases e : x ∈ l
  · exact e
  · rw [fl_out e] at h1
    rcases hd.st x h.lt with e2 | e2 <;> omega
/-- The path's answer. -/
structure An (n : Nat) (T S0 : Nat → Int) (k : Nat) (l : List Nat) (r : Nat) : Prop where
  lt : r < n
  inl : ∀ p ∈ l, p < n
  all : ∀ p ∈ l, ∃ d, Ch T d p r
  mem : k ∈ l
theorem Pt.stop {n : Nat} {T S0 S : Nat → Int} {k : Nat} {l : List Nat} {x : Nat} (h : Pt n T S0 S k l x) (hT : T x < 0) : An n T S0 k (l ++ [x]) x := by
  refine ⟨h.lt, fun p hp => ?_, h.path.ends_snoc hT, ?_⟩
  · rcases List.mem_append.1 hp with e | e
    · exact h.inl p e
    · simp at e; subst e; exact h.lt
  · rcases h.fst with ⟨e, _⟩ | e
    · subst e; simp
    · simp [e]
theorem Pt.known {n : Nat} {T S0 S Q : Nat → Int} {k : Nat} {l : List Nat} {x : Nat} (h : Pt n T S0 S k l x) (hd : Dn n T S0 Q k) (h2 : S x = 2) (hk0 : S0 k ≠ 2) : ∃ r : Nat, Q x = (r : Int) ∧ An n T S0 k l r := by
  have hx : x ∉ l := fun e => by
    rw [h.st, fl_in e] at h2
    omega
  rw [h.st, fl_out hx] at h2
  obtain ⟨r, hr, hq, d, hc⟩ := hd.val x h.lt h2
  refine ⟨r, hq, hr, h.inl, h.path.ends hc, ?_⟩
  rcases h.fst with ⟨e, _⟩ | e
  · subst e; exact absurd h2 hk0
  · exact e
/-- The path written back. -/
theorem An.done {n : Nat} {T S0 Q : Nat → Int} {k : Nat} {l : List Nat} {r : Nat} (h : An n T S0 k l r) (hd : Dn n T S0 Q k) : Dn n T (fl (fl S0 l 1) l 2) (fl Q l r) (k + 1) := by
  have hS : ∀ j, fl (fl S0 l 1) l 2 j = if j ∈ l then 2 else S0 j := fun j => by
    by_cases e : j ∈ l
    · rw [fl_in e, if_pos e]
    · rw [fl_out e, fl_out e, if_neg e]
  refine ⟨fun j hj => ?_, fun j hj => ?_, fun j hj h2 => ?_⟩
  · rw [hS]; split
    · exact .inr rfl
    · exact hd.st j hj
  · rw [hS]; split
    · rfl
    · rename_i e
      have hjk : j ≠ k := fun e2 => e (by rw [e2]; exact h.mem)
      exact hd.fst j (by omega)
  · rw [hS] at h2
    by_cases e : j ∈ l
    · exact ⟨r, h.lt, fl_in e, h.all j e⟩
    · rw [if_neg e] at h2
      rw [fl_out e]
      exact hd.val j hj h2
theorem Dn.start (n : Nat) (T Q : Nat → Int) : Dn n T (fun _ => 0) Q 0 :=
  ⟨fun _ _ => .inl rfl, fun j hj => absurd hj (Nat.not_lt_zero j), fun j hj h => by
    have h0 : (0 : Int) = 2 := h
    omega⟩
theorem Dn.skip {n : Nat} {T S Q : Nat → Int} {k : Nat} (h : Dn n T S Q k) (h2 : S k = 2) : Dn n T S Q (k + 1) :=
  ⟨h.st, fun j hj => by
    by_cases e : j = k
    · subst e; exact h2
    · exact h.fst j (by omega), h.val⟩
theorem Dn.ends {n : Nat} {T S Q : Nat → Int} (h : Dn n T S Q n) : ∃ R : Nat → Nat, ChE n T R ∧ ∀ j, j < n → Q j = (R j : Int) := by
  refine ⟨fun j => (Q j).toNat, fun j hj => ?_, fun j hj => ?_⟩
  · obtain ⟨r, _, e, d, c⟩ := h.val j hj (h.fst j hj)
    refine ⟨d, ?_⟩
    show Ch T d j (Q j).toNat
    rw [e, Int.toNat_natCast]; exact c
  · obtain ⟨r, _, e, _⟩ := h.val j hj (h.fst j hj)
    show Q j = ((Q j).toNat : Int)
    rw [e, Int.toNat_natCast]
end Go.Proofs.YtbppncnhdhogbaaDoor.Rq
