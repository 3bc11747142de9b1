/-
  The state of the registry while the law fills it: idents, then packages; what the reader finds in the end. Conditions: sizes alone.
-/
import Derived.Test.YteabgjicjopjgaaFmtGb
namespace Go.Proofs.YteabgjicjopjgaaFmt.Gp
open Go.RowKit Go.PlainAid Mem Mvs Sz Ga Gb
set_option linter.unusedVariables false

/-- The last index below k that writes the pair. -/
def lastI (S R : Nat → ByteArray) (s r : ByteArray) : Nat → Option Nat
  | 0 => none
  | k + 1 => if S k = s ∧ R k = r then some k else lastI S R s r k

theorem lastI_lt {S R : Nat → ByteArray} {s r : ByteArray} : ∀ {k i : Nat}, lastI S R s r k = some i → i < k
  | 0, i, h => by cases h
  | k + 1, i, h => by
    unfold lastI at h
    split at h
    · cases h; omega
    · have := lastI_lt h; omega

theorem lastI_hit {S R : Nat → ByteArray} {s r : ByteArray} {k : Nat} (h : S k = s ∧ R k = r) : lastI S R s r (k + 1) = some k := by
  unfold lastI; rw [if_pos h]
theorem lastI_miss {S R : Nat → ByteArray} {s r : ByteArray} {k : Nat} (h : ¬ (S k = s ∧ R k = r)) : lastI S R s r (k + 1) = lastI S R s r k := by
  show (if S k = s ∧ R k = r then some k else lastI S R s r k) = _
  rw [if_neg h]

theorem lastI_none {S R : Nat → ByteArray} {s r : ByteArray} : ∀ {k : Nat}, (∀ j, j < k → S j ≠ s) → lastI S R s r k = none
  | 0, _ => rfl
  | k + 1, h => by
    rw [lastI_miss (fun e => h k (by omega) e.1)]
    exact lastI_none fun j hj => h j (by omega)

structure St (w0 w : World) (g b k m : Nat) (S R T : Nat → ByteArray) (L : ByteArray → Option Nat) (dep : Nat → Nat) : Prop where
  reg : Reg w g b
  mo : Mo w b k (fun s => (L s).map fun c => .map (some c))
  inn : ∀ s c, L s = some c → Mo w c m (fun r => (lastI S R s r m).map fun i => pkgV (T i) (dep i))
  deps : ∀ i, i < m → w.heap[dep i]? = some (.map #[] 0)
  dis : ∀ i s c, i < m → L s = some c → c ≠ dep i
  far : ∀ s c, L s = some c → w0.heap.size ≤ c ∧ c ≠ b ∧ c ≠ g
  inj : ∀ s r c, L s = some c → L r = some c → s = r
  all : ∀ j, j < k → (L (S j)).isSome = true
  gb : w0.heap.size ≤ g ∧ w0.heap.size ≤ b ∧ b ≠ g
  below : Below w0.heap.size w0 w

theorem St.new {w0 w : World} {g b : Nat} {S R T : Nat → ByteArray} (hM : Mo w b 0 (fun _ => none)) (hR : Reg w g b) (h1 : w0.heap.size ≤ g) (h2 : w0.heap.size ≤ b) (h3 : b ≠ g) (hB : Below w0.heap.size w0 w) :
    St w0 w g b 0 0 S R T (fun _ => none) (fun _ => 0) where
  reg := hR
  mo := hM
  inn := fun s c h => by cases h
  deps := fun i h => absurd h (by omega)
  dis := fun i s c h => absurd h (by omega)
  far := fun s c h => by cases h
  inj := fun s r c h => by cases h
  all := fun j h => absurd h (by omega)
  gb := ⟨h1, h2, h3⟩
  below := hB

theorem reg_lt {w : World} {g b : Nat} (h : Reg w g b) : g < w.heap.size := by
  unfold Reg at h
  rcases Nat.lt_or_ge g w.heap.size with h' | h'
  · exact h'
  · simp [World.cell?, Array.getElem?_eq_none h'] at h

theorem reg_kept {w w' : World} {g b : Nat} {row : Option Nat} (h : Reg w g b) (hg : w.grownBy w' row) (hne : some g ≠ row) : Reg w' g b := hg.cell h hne

/-- An ident put. -/
theorem St.ident {w0 w w' : World} {g b k : Nat} {S R T : Nat → ByteArray} {L : ByteArray → Option Nat} {dep : Nat → Nat} (h : St w0 w g b k 0 S R T L dep) {e : Ending}
    (hp : PutI w b k (fun s => (L s).map fun c => .map (some c)) (S k) e w') : St w0 w' g b (k + 1) 0 S R T (fun s => if s = S k then some w.heap.size else L s) dep := by
  obtain ⟨_, p1, p2, p3, p4⟩ := hp
  have hgb := h.gb
  refine ⟨reg_kept h.reg p4 (fun e => hgb.2.2 (by cases e; rfl)), p1.congr fun s => ?_, fun s c hc => ?_, fun i hi => absurd hi (by omega), fun i s c hi => absurd hi (by omega), fun s c hc => ?_, fun s r c hs hr => ?_, fun j hj => ?_, hgb, h.below.grown p4 h.below.size (fun x hx => by cases hx; exact hgb.2.1)⟩
  · show Option.map _ (if s = S k then some w.heap.size else L s) = _
    by_cases e : s = S k
    · rw [if_pos e, if_pos e]; rfl
    · rw [if_neg e, if_neg e]
  · have hc' : (if s = S k then some w.heap.size else L s) = some c := hc
    by_cases e : s = S k
    · rw [if_pos e] at hc'
      obtain rfl : w.heap.size = c := by simpa using hc'
      exact p2
    · rw [if_neg e] at hc'
      exact (h.inn s c hc').kept p4 (fun x => (h.far s c hc').2.1 (by cases x; rfl))
  · have hc' : (if s = S k then some w.heap.size else L s) = some c := hc
    by_cases e : s = S k
    · rw [if_pos e] at hc'
      obtain rfl : w.heap.size = c := by simpa using hc'
      have h1 := h.mo.lt
      have h2 := reg_lt h.reg
      have h3 := h.below.size
      exact ⟨h3, by omega, by omega⟩
    · rw [if_neg e] at hc'
      exact h.far s c hc'
  · have hs' : (if s = S k then some w.heap.size else L s) = some c := hs
    have hr' : (if r = S k then some w.heap.size else L r) = some c := hr
    by_cases e : s = S k
    · rw [if_pos e] at hs'
      obtain rfl : w.heap.size = c := by simpa using hs'
      by_cases e' : r = S k
      · rw [e, e']
      · rw [if_neg e'] at hr'
        exact absurd (h.inn r _ hr').lt (by omega)
    · rw [if_neg e] at hs'
      by_cases e' : r = S k
      · rw [if_pos e'] at hr'
        obtain rfl : w.heap.size = c := by simpa using hr'
        exact absurd (h.inn s _ hs').lt (by omega)
      · rw [if_neg e'] at hr'
        exact h.inj s r c hs' hr'
  · show Option.isSome (if S j = S k then some w.heap.size else L (S j)) = true
    by_cases e : S j = S k
    · rw [if_pos e]; rfl
    · rw [if_neg e]
      exact h.all j (by have hne : j ≠ k := fun x => e (by rw [x]); omega)

/-- A package put. -/
theorem St.package {w0 w w' : World} {g b n m c : Nat} {S R T : Nat → ByteArray} {L : ByteArray → Option Nat} {dep : Nat → Nat} (h : St w0 w g b n m S R T L dep) (hc : L (S m) = some c) {e : Ending}
    (hp : PutP w c m (fun r => (lastI S R (S m) r m).map fun i => pkgV (T i) (dep i)) (R m) (T m) e w') :
    St w0 w' g b n (m + 1) S R T L (fun i => if i = m then w.heap.size else dep i) := by
  obtain ⟨_, p1, p2, p3, p4⟩ := hp
  have hgb := h.gb
  have hf := h.far _ _ hc
  have hdep : ∀ (s r : ByteArray), (lastI S R s r m).map (fun i => pkgV (T i) (if i = m then w.heap.size else dep i)) = (lastI S R s r m).map (fun i => pkgV (T i) (dep i)) := fun s r => by
    cases hl : lastI S R s r m with
    | none => rfl
    | some i =>
      have := lastI_lt hl
      simp only [Option.map_some]
      rw [if_neg (by omega)]
  refine ⟨reg_kept h.reg p4 (fun x => hf.2.2 (by cases x; rfl)), h.mo.kept p4 (fun x => hf.2.1 (by cases x; rfl)), fun s c' hc' => ?_, fun i hi => ?_, fun i s c' hi hc' => ?_, h.far, h.inj, h.all, hgb, h.below.grown p4 h.below.size (fun x hx => by cases hx; exact hf.1)⟩
  · by_cases e : s = S m
    · subst e
      obtain rfl : c = c' := by rw [hc] at hc'; simpa using hc'
      refine p1.congr fun r => ?_
      by_cases er : r = R m
      · rw [if_pos er, lastI_hit ⟨rfl, er.symm⟩]
        simp
      · rw [if_neg er, lastI_miss (fun x => er x.2.symm)]
        exact hdep _ _
    · have hne : c' ≠ c := fun x => by subst x; exact e (h.inj s (S m) _ hc' hc)
      refine (((h.inn s c' hc').kept p4 (fun x => hne (by cases x; rfl))).mono (m := m + 1) (by omega)).congr fun r => ?_
      rw [lastI_miss (fun x => e x.1.symm)]
      exact hdep _ _
  · show w'.heap[if i = m then w.heap.size else dep i]? = _
    by_cases e : i = m
    · rw [if_pos e]; exact p2
    · rw [if_neg e]
      have h1 := h.deps i (by omega)
      exact (p4.block _ (Array.getElem?_eq_some_iff.1 h1).1 (fun x => h.dis i _ _ (by omega) hc (by cases x; rfl))).trans h1
  · show c' ≠ if i = m then w.heap.size else dep i
    by_cases e : i = m
    · rw [if_pos e]
      have := (h.inn s c' hc').lt
      omega
    · rw [if_neg e]
      exact h.dis i s c' (by omega) hc'

/-- What the reader finds at the end. -/
theorem St.has {w0 w : World} {g b n : Nat} {S R T : Nat → ByteArray} {L : ByteArray → Option Nat} {dep : Nat → Nat} (h : St w0 w g b n n S R T L dep) (s r : ByteArray) :
    Has w (fun s => (L s).map fun c => .map (some c)) s r ((lastI S R s r n).map T) := by
  cases hL : L s with
  | none =>
    refine .inl ⟨by simp [hL], ?_⟩
    rw [lastI_none fun j hj e => by have := h.all j hj; rw [e, hL] at this; cases this]
    rfl
  | some c =>
    refine .inr ⟨c, n, _, by simp [hL], h.inn s c hL, ?_⟩
    cases hl : lastI S R s r n with
    | none => exact .inl ⟨by rfl, rfl⟩
    | some i => exact .inr ⟨T i, dep i, rfl, h.deps i (lastI_lt hl), rfl⟩

theorem St.mono {w0 w w' : World} {g b n m : Nat} {S R T : Nat → ByteArray} {L : ByteArray → Option Nat} {dep : Nat → Nat} (h : St w0 w g b n m S R T L dep) (hB : Below w.heap.size w w') : St w0 w' g b n m S R T L dep where
  reg := (hB.cell (p := ⟨g, 4, none⟩) (reg_lt h.reg)).trans h.reg
  mo := h.mo.below hB h.mo.lt
  inn := fun s c hc => (h.inn s c hc).below hB (h.inn s c hc).lt
  deps := fun i hi => (hB.block _ (Array.getElem?_eq_some_iff.1 (h.deps i hi)).1).trans (h.deps i hi)
  dis := h.dis
  far := h.far
  inj := h.inj
  all := h.all
  gb := h.gb
  below := h.below.trans (hB.mono h.below.size)
theorem St.drewN {w0 w : World} {g b n m : Nat} {S R T : Nat → ByteArray} {L : ByteArray → Option Nat} {dep : Nat → Nat} (h : St w0 w g b n m S R T L dep) (j : Nat) : St w0 (w.drewN j) g b n m S R T L dep := h.mono (below_drewN (Below.refl _ _) j)
end Go.Proofs.YteabgjicjopjgaaFmt.Gp
