/-
  Plain mathematics of joining two classes of a link forest. No program in sight: links, ends and contents alone. Conditions: no cycle.
-/
import Derived.Test.YtbppncnhdhogbaaDoorFm
namespace Go.Proofs.YtbppncnhdhogbaaDoor.Fp
open Go.RowKit Mem Rws Rt Fa Pl Fb Rq Fc Fy Fe Fr Ff Fm
set_option linter.unusedVariables false
/-- What MergeSymbols leaves: the answer q, the links T', the contents D1. -/
def Post (n : Nat) (T T' : Nat → Int) (D D1 : Dat) (ro rn q bo bn : Nat) : Prop :=
  (ro ≠ rn → q = rn ∧ (∀ x, x < n → T' x = T x ∨ (T' x = (rn : Int) ∧ ((0 ≤ T x ∧ ∃ d, Ch T d x ro ∨ Ch T d x rn) ∨ x = ro))) ∧ T' ro = (rn : Int) ∧ D1.N = (mg D rn ro).N ∧ D1.U = (mg D rn ro).U ∧ D1.K = (mg D rn ro).K) ∧
  (ro = rn → (∃ dq, Ch T dq q ro ∧ dq ≤ bo ∧ dq ≤ bn ∧ ∀ x, x < n → T' x = T x ∨ (0 ≤ T x ∧ T' x = (q : Int) ∧ ∃ dx, Ch T dx x ro ∧ dq < dx)) ∧ Ln D D1)
theorem post_same {n : Nat} {T : Nat → Int} {D : Dat} {i r d d' : Nat} {r' : Nat} (h : Ch T d i r) (h' : Ch T d' i r') : Post n T T D D r r' i d d' := by
  obtain ⟨rfl, rfl⟩ := h.uniq h'
  exact ⟨fun hne => absurd rfl hne, fun _ => ⟨⟨d, h, Nat.le_refl _, Nat.le_refl _, fun x _ => .inl rfl⟩, Ln.refl D⟩⟩
theorem post_old {n : Nat} {T T' : Nat → Int} {D D1 : Dat} {ro rn q d bn i : Nat} {x y : Int} (h : Post n T T' D D1 ro rn q d bn) (hT : 0 ≤ T i) (hc : Ch T (d + 1) i ro) : Post n T (up T' i (q : Int)) D (D1.link i x y) ro rn q (d + 1) bn := by
  refine ⟨fun hne => ?_, fun he => ?_⟩
  · obtain ⟨h1, h2, h3, h4⟩ := h.1 hne
    refine ⟨h1, fun z hz => ?_, ?_, h4⟩
    · by_cases e : z = i
      · subst e
        exact .inr ⟨by rw [up_at, h1], .inl ⟨hT, _, .inl hc⟩⟩
      · rw [up_ne _ _ e]; exact h2 z hz
    · have hne2 : ro ≠ i := fun e => by
        have := hc.last
        rw [e] at this
        omega
      rw [up_ne _ _ hne2]; exact h3
  · obtain ⟨⟨dq, h1, h2, h3, h4⟩, h5⟩ := h.2 he
    refine ⟨⟨dq, h1, by omega, h3, fun z hz => ?_⟩, Ln.trans h5 (Ln.link _ _ _ _)⟩
    by_cases e : z = i
    · subst e
      exact .inr ⟨hT, up_at _ _ _, _, hc, by omega⟩
    · rw [up_ne _ _ e]; exact h4 z hz
theorem post_new {n : Nat} {T T' : Nat → Int} {D D1 : Dat} {ro rn q d bo j : Nat} {x y : Int} (h : Post n T T' D D1 ro rn q bo d) (hT : 0 ≤ T j) (hc : Ch T (d + 1) j rn) (hro : T ro < 0) : Post n T (up T' j (q : Int)) D (D1.link j x y) ro rn q bo (d + 1) := by
  have hne2 : ro ≠ j := fun e => by rw [e] at hro; omega
  refine ⟨fun hne => ?_, fun he => ?_⟩
  · obtain ⟨h1, h2, h3, h4⟩ := h.1 hne
    refine ⟨h1, fun z hz => ?_, ?_, h4⟩
    · by_cases e : z = j
      · subst e
        exact .inr ⟨by rw [up_at, h1], .inl ⟨hT, _, .inr hc⟩⟩
      · rw [up_ne _ _ e]; exact h2 z hz
    · rw [up_ne _ _ hne2]; exact h3
  · obtain ⟨⟨dq, h1, h2, h3, h4⟩, h5⟩ := h.2 he
    refine ⟨⟨dq, h1, h2, by omega, fun z hz => ?_⟩, Ln.trans h5 (Ln.link _ _ _ _)⟩
    by_cases e : z = j
    · subst e
      exact .inr ⟨hT, up_at _ _ _, _, he ▸ hc, by omega⟩
    · rw [up_ne _ _ e]; exact h4 z hz
theorem post_fin {n : Nat} {T : Nat → Int} {D : Dat} {i j : Nat} {x y : Int} (hne : i ≠ j) : Post n T (up T i (j : Int)) D (mg (D.link i x y) j i) i j j 0 0 := by
  refine ⟨fun _ => ⟨rfl, fun z hz => ?_, up_at _ _ _, rfl, rfl, rfl⟩, fun e => absurd e hne⟩
  by_cases e : z = i
  · subst e; exact .inr ⟨up_at _ _ _, .inr rfl⟩
  · rw [up_ne _ _ e]; exact .inl rfl
theorem Post.mono {n : Nat} {T T' : Nat → Int} {D D1 : Dat} {ro rn q bo bn bo' bn' : Nat} (h : Post n T T' D D1 ro rn q bo bn) (h1 : bo ≤ bo') (h2 : bn ≤ bn') : Post n T T' D D1 ro rn q bo' bn' :=
  ⟨h.1, fun e => by
    obtain ⟨⟨dq, a1, a2, a3, a4⟩, a5⟩ := h.2 e
    exact ⟨⟨dq, a1, by omega, by omega, a4⟩, a5⟩⟩
/-- Behind the joining every chain ends, where the law says. -/
theorem Post.ends {n : Nat} {T T' : Nat → Int} {D D1 : Dat} {ro rn q bo bn : Nat} {R : Nat → Nat} (h : Post n T T' D D1 ro rn q bo bn) (hT : Rng n T) (hR : ChE n T R) (hro : T ro < 0) (hrn : T rn < 0) (hron : ro < n) (hrnn : rn < n) (hq : q < n) :
    ChE n T' (fun x => if R x = ro then rn else R x) := by
  by_cases e : ro = rn
  · obtain ⟨⟨dq, h1, _, _, h4⟩, _⟩ := h.2 e
    have key : ∀ d x r, Ch T d x r → x < n → ∃ k, Ch T' k x r := by
      intro d
      induction d using Nat.strongRecOn with
      | ind d ih =>
        intro x r hc hx
        rcases h4 x hx with e1 | ⟨e1, e2, dx, e3, e4⟩
        · by_cases hneg : T x < 0
          · cases hc with
            | stop _ _ => exact ⟨0, .stop x (by omega)⟩
            | step _ _ _ h5 _ => omega
          · cases hc with
            | stop _ h5 => omega
            | step k _ _ h5 c =>
              obtain ⟨k', c'⟩ := ih k (by omega) (T x).toNat r c (by have := hT x hx; omega)
              exact ⟨k' + 1, .step k' x r (by omega) (by rw [e1]; exact c')⟩
        · obtain ⟨ed, er⟩ := hc.uniq e3
          subst ed; subst er
          obtain ⟨k', c'⟩ := ih dq (by omega) q r h1 hq
          exact ⟨k' + 1, .step k' x r (by omega) (by rw [e2, Int.toNat_natCast]; exact c')⟩
    intro x hx
    obtain ⟨d, hc⟩ := hR x hx
    obtain ⟨k, c⟩ := key d x _ hc hx
    refine ⟨k, ?_⟩
    show Ch T' k x (if R x = ro then rn else R x)
    by_cases e2 : R x = ro
    · rw [if_pos e2, ← e, ← e2]; exact c
    · rw [if_neg e2]; exact c
  · obtain ⟨_, h2, h3, _⟩ := h.1 e
    have hrn' : T' rn = T rn := by
      rcases h2 rn hrnn with e1 | ⟨e1, ⟨e2, _⟩ | e2⟩
      · exact e1
      · omega
      · exact absurd e2.symm e
    have stop_rn : Ch T' 0 rn rn := .stop rn (by omega)
    have key : ∀ d x r, Ch T d x r → x < n → ∃ k, Ch T' k x (if r = ro then rn else r) := by
      intro d
      induction d with
      | zero =>
        intro x r hc hx
        cases hc with
        | stop _ hneg =>
          by_cases ex : x = ro
          · subst ex
            exact ⟨0 + 1, .step 0 x _ (by omega) (by rw [h3, Int.toNat_natCast, if_pos rfl]; exact stop_rn)⟩
          · rw [if_neg ex]
            rcases h2 x hx with e1 | ⟨e1, ⟨e2, _⟩ | e2⟩
            · exact ⟨0, .stop x (by omega)⟩
            · omega
            · exact absurd e2 ex
      | succ d ih =>
        intro x r hc hx
        have hc0 := hc
        cases hc with
        | step _ _ _ h5 c =>
          rcases h2 x hx with e1 | ⟨e1, e2⟩
          · obtain ⟨k', c'⟩ := ih (T x).toNat r c (by have := hT x hx; omega)
            exact ⟨k' + 1, .step k' x _ (by omega) (by rw [e1]; exact c')⟩
          · have hr : (if r = ro then rn else r) = rn := by
              rcases e2 with ⟨_, d', e3 | e3⟩ | e3
              · rw [if_pos (hc0.uniq e3).2]
              · have := (hc0.uniq e3).2
                by_cases e4 : r = ro
                · rw [if_pos e4]
                · rw [if_neg e4, this]
              · rw [e3] at h5; omega
            rw [hr]
            exact ⟨0 + 1, .step 0 x rn (by omega) (by rw [e1, Int.toNat_natCast]; exact stop_rn)⟩
    intro x hx
    obtain ⟨d, hc⟩ := hR x hx
    exact key d x _ hc hx
end Go.Proofs.YtbppncnhdhogbaaDoor.Fp
