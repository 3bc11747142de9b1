/-
  Contract for the laws on symbol links: MergeSymbols, by induction on the chains' lengths. Conditions: sizes, no cycle, the package's InvalidRef as its initialiser lays it.
-/
import Derived.Test.YtbppncnhdhogbaaDoorFo
namespace Go.Proofs.YtbppncnhdhogbaaDoor.Mm
open Go.RowKit Go.PlainAid Mem Rws Rt Fa Pl Fb Rq Fc Fy Fe Fr Ff Fm Fp Fz Fo
set_option linter.unusedVariables false
theorem tst2 {n m : Nat} {C X Y : Nat → Nat} (hL : ∀ i, i < n → Lc C m i (X i) (Y i)) {i j : Nat} (hi : i < n) (hj : j < n) (hij : i ≠ j) : ((X i : Int) == (X j : Int)) = false ∨ (X i = X j ∧ ((Y i : Int) == (Y j : Int)) = false) := by
  by_cases e : X i = X j
  · refine .inr ⟨e, ?_⟩
    rw [beq_eq_false_iff_ne]
    intro e2
    have h1 := (hL i hi).2.2
    have h2 := (hL j hj).2.2
    rw [e, show Y i = Y j by omega] at h1
    exact hij (h1.symm.trans h2)
  · left
    rw [beq_eq_false_iff_ne]
    omega
theorem mrg15 {B G m n : Nat} {C g : Nat → Nat} {X Y : Nat → Nat} (hL : ∀ i, i < n → Lc C m i (X i) (Y i)) (hP : P C m = n) (hn : n ≤ 4096) (hm : m ≤ 4097) : ∀ (N bo bn i j ro rn : Nat) (T : Nat → Int) (D : Dat) (w : World), bo + bn = N → i < n → j < n → Sy B G m C g D w → Lk n X Y D T → Inv w → 0 < w.heap.size → Ch T bo i ro → Ch T bn j rn →
    Calls Tryd.prog 15 #[.agg #[.slice (some ⟨G, 0, none⟩) m m], .agg #[.int .u32 (X i : Int), .int .u32 (Y i : Int)], .agg #[.int .u32 (X j : Int), .int .u32 (Y j : Int)]] w (Mrg B G m n C g X Y D T ro rn bo bn w) := by
  have hCb : ∀ s, s < m → C s ≤ 4096 := fun s hs => by have := P_at C hs; omega
  have hXb : ∀ t, t < n → X t ≤ 4097 := fun t ht => by have := (hL t ht).1; omega
  intro N
  induction N with
  | zero =>
    intro bo bn i j ro rn T D w hN hi hj h hK hI hI0 hc hc'
    obtain rfl : bo = 0 := by omega
    obtain rfl : bn = 0 := by omega
    by_cases hij : i = j
    · subst hij
      exact same15 i hi T D w h hK hc hc'
    · cases hc with
      | stop _ hTi =>
        cases hc' with
        | stop _ hTj =>
          refine fin15 hm hCb i j (X i) (Y i) (X j) (Y j) hij hj rfl rfl (hL i hi) (hL j hj) (tst2 hL hi hj hij) T D w h hI hI0 (Lk.no hK hi hTi).1 (Lk.no hK hi hTi).2 (Lk.no hK hj hTj).1 (Lk.no hK hj hTj).2 (Lk.set hK i j hj)
  | succ N ih =>
    intro bo bn i j ro rn T D w hN hi hj h hK hI hI0 hc hc'
    by_cases hij : i = j
    · subst hij
      exact same15 i hi T D w h hK hc hc'
    · by_cases hTi : 0 ≤ T i
      · have hc0 := hc
        cases hc with
        | stop _ hneg => omega
        | step d _ _ _ c =>
          obtain ⟨t, htn, ht, hx, hy⟩ := Lk.yes hK hi hTi
          rw [ht, Int.toNat_natCast] at c
          exact old15 hm hCb i (X i) (Y i) (X j) (Y j) t (hL i hi) (tst2 hL hi hj hij) (hXb t htn) T D w h hI hI0 hTi hx hy hc0 (fun D' T' q hk hq => Lk.set hk i q hq)
            (Lib.hid fun W hb => (ih d bn t j ro rn T D W (by omega) htn hj (h.below hb (Nat.le_refl _)) hK (hI.below hb hI0) (Nat.lt_of_lt_of_le hI0 hb.size) c hc'))
      · have hro : ro = i := hc.self (by omega)
        have hbo : bo = 0 := by
          cases hc with
          | stop _ _ => rfl
          | step _ _ _ h5 _ => omega
        have hc0 := hc'
        cases hc' with
        | stop _ hneg => omega
        | step d _ _ hTj c =>
          obtain ⟨t, htn, ht, hx, hy⟩ := Lk.yes hK hj hTj
          rw [ht, Int.toNat_natCast] at c
          exact new15 hm hCb i j (X i) (Y i) (X j) (Y j) t (hL i hi) (hL j hj) (tst2 hL hi hj hij) (hXb t htn) T D w h hI hI0 (Lk.no hK hi (by omega)).1 (Lk.no hK hi (by omega)).2 hTj hx hy (by rw [hro]; omega) hc0 (fun D' T' q hk hq => Lk.set hk j q hq)
            (Lib.hid fun W hb => ih bo d i t ro rn T D W (by omega) hi htn (h.below hb (Nat.le_refl _)) hK (hI.below hb hI0) (Nat.lt_of_lt_of_le hI0 hb.size) hc c)
end Go.Proofs.YtbppncnhdhogbaaDoor.Mm
