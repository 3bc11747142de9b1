/-
  The plain law: a search that marks early and a work list both end at the closure. No condition.
-/
namespace Go.Proofs.Ytmjfdhgfpgeboac.Dg
/-- a graph of parts in files: number of files, parts of a file, dependencies of a part, which parts are kept -/
structure G where
  nF : Nat
  np : Nat → Nat
  nd : Nat → Nat → Nat
  kp : Nat → Nat → Bool
  dep : Nat → Nat → Nat → Nat × Nat
inductive Node where
  | file (f : Nat)
  | part (f p : Nat)
deriving DecidableEq
/-- one step of the closure -/
inductive Step (g : G) : Node → Node → Prop where
  | own (f p : Nat) : Step g (.part f p) (.file f)
  | dep (f p k : Nat) (h : k < g.nd f p) : Step g (.part f p) (.part (g.dep f p k).1 (g.dep f p k).2)
  | keep (f j : Nat) (h : j < g.np f) (hk : g.kp f j = true) : Step g (.file f) (.part f j)
inductive Re (g : G) (x : Node) : Node → Prop where
  | refl : Re g x x
  | step {y z : Node} (h : Re g x y) (s : Step g y z) : Re g x z
theorem Re.trans {g : G} {x y z : Node} (h : Re g x y) (k : Re g y z) : Re g x z := by
  induction k with
  | refl => exact h
  | step _ s ih => exact ih.step s
/-- a set of live nodes -/
abbrev L := Node → Bool
/-- L' is L and what a search from x has added: mono, x itself, closed in what is new, reached -/
structure Adv (g : G) (l : L) (x : Node) (l' : L) : Prop where
  mono : ∀ y, l y = true → l' y = true
  at_ : l' x = true
  closed : ∀ y, l' y = true → l y = false → ∀ z, Step g y z → l' z = true
  reach : ∀ y, l' y = true → l y = true ∨ Re g x y
theorem Adv.skip {g : G} {l : L} {x : Node} (h : l x = true) : Adv g l x l := ⟨fun _ h => h, h, fun y h1 h2 => (by rw [h1] at h2; cases h2), fun y h => .inl h⟩
/-- a search in the making: x is marked, some of its successors are done -/
structure Mid (g : G) (l : L) (x : Node) (D : Node → Prop) (l' : L) : Prop where
  mono : ∀ y, l y = true → l' y = true
  at_ : l' x = true
  done : ∀ z, D z → l' z = true
  closed : ∀ y, l' y = true → l y = false → y ≠ x → ∀ z, Step g y z → l' z = true
  reach : ∀ y, l' y = true → l y = true ∨ Re g x y
def mark (l : L) (x : Node) : L := fun y => if y = x then true else l y
theorem Mid.start {g : G} {l : L} {x : Node} : Mid g l x (fun _ => False) (mark l x) := by
  refine ⟨fun y h => ?_, if_pos rfl, fun z h => h.elim, fun y h h2 hne => ?_, fun y h => ?_⟩
  · unfold mark; split
    · rfl
    · exact h
  · unfold mark at h; rw [if_neg hne, h2] at h; cases h
  · unfold mark at h
    by_cases e : y = x
    · subst e; exact .inr .refl
    · rw [if_neg e] at h; exact .inl h
theorem Mid.next {g : G} {l l1 l2 : L} {x z : Node} {D : Node → Prop} (h : Mid g l x D l1) (s : Step g x z) (a : Adv g l1 z l2) : Mid g l x (fun y => D y ∨ y = z) l2 := by
  refine ⟨fun y hy => a.mono y (h.mono y hy), a.mono x h.at_, fun y hy => ?_, fun y hy hl hne w hs => ?_, fun y hy => ?_⟩
  · rcases hy with hy | rfl
    · exact a.mono y (h.done y hy)
    · exact a.at_
  · cases h1 : l1 y with
    | true => exact a.mono w (h.closed y h1 hl hne w hs)
    | false => exact a.closed y hy h1 w hs
  · rcases a.reach y hy with h1 | h1
    · exact h.reach y h1
    · exact .inr ((Re.refl.step s).trans h1)
theorem Mid.imp {g : G} {l l1 : L} {x : Node} {D E : Node → Prop} (h : Mid g l x D l1) (e : ∀ z, E z → D z) : Mid g l x E l1 := ⟨h.mono, h.at_, fun z hz => h.done z (e z hz), h.closed, h.reach⟩
theorem Mid.stop {g : G} {l l1 : L} {x : Node} {D : Node → Prop} (h : Mid g l x D l1) (hx : l x = false) (all : ∀ z, Step g x z → D z) : Adv g l x l1 := by
  refine ⟨h.mono, h.at_, fun y hy hl z hs => ?_, h.reach⟩
  by_cases e : y = x
  · subst e; exact h.done z (all z hs)
  · exact h.closed y hy hl e z hs
/-- from nothing: what is live is what can be reached -/
theorem Adv.whole {g : G} {x : Node} {l' : L} (h : Adv g (fun _ => false) x l') (y : Node) : l' y = true ↔ Re g x y := by
  constructor
  · intro hy
    rcases h.reach y hy with h1 | h1
    · cases h1
    · exact h1
  · intro hy
    induction hy with
    | refl => exact h.at_
    | step _ s ih => exact h.closed _ ih rfl _ s
/-- the work list's state: everything that a live node leads to is live or waits -/
structure Wl (g : G) (x : Node) (l : L) (w : Node → Prop) : Prop where
  at_ : l x = true ∨ w x
  closed : ∀ y, l y = true → ∀ z, Step g y z → l z = true ∨ w z
  reach : ∀ y, l y = true → Re g x y
  wreach : ∀ y, w y → Re g x y
theorem Wl.whole {g : G} {x : Node} {l : L} {w : Node → Prop} (h : Wl g x l w) (he : ∀ y, ¬ w y) (y : Node) : l y = true ↔ Re g x y := by
  constructor
  · exact h.reach y
  · intro hy
    induction hy with
    | refl => exact h.at_.resolve_right (he _)
    | step _ s ih => exact (h.closed _ ih _ s).resolve_right (he _)
/-! counting what is not yet live -/
def cntP (l : L) (f : Nat) : Nat → Nat
  | 0 => 0
  | p + 1 => cntP l f p + (if l (.part f p) then 0 else 1)
def cnt (g : G) (l : L) : Nat → Nat
  | 0 => 0
  | f + 1 => cnt g l f + cntP l f (g.np f) + (if l (.file f) then 0 else 1)
theorem cntP_mono {l l' : L} (h : ∀ y, l y = true → l' y = true) (f : Nat) : ∀ p, cntP l' f p ≤ cntP l f p
  | 0 => Nat.le_refl _
  | p + 1 => by
    have ih := cntP_mono h f p
    have := h (.part f p)
    unfold cntP
    cases h1 : l (.part f p) <;> cases h2 : l' (.part f p) <;> simp_all <;> omega
theorem cnt_mono {g : G} {l l' : L} (h : ∀ y, l y = true → l' y = true) : ∀ n, cnt g l' n ≤ cnt g l n
  | 0 => Nat.le_refl _
  | n + 1 => by
    have ih := cnt_mono (g := g) h n
    have h1 := cntP_mono h n (g.np n)
    have := h (.file n)
    unfold cnt
    cases h1 : l (.file n) <;> cases h2 : l' (.file n) <;> simp_all <;> omega
theorem mark_mono (l : L) (x : Node) : ∀ y, l y = true → mark l x y = true := fun y h => by
  unfold mark; split
  · rfl
  · exact h
theorem mark_same (l : L) (x : Node) : mark l x x = true := if_pos rfl
theorem mark_other {l : L} {x y : Node} (h : y ≠ x) : mark l x y = l y := if_neg h
theorem cntP_mark {l : L} {f q : Nat} (hq : l (.part f q) = false) : ∀ p, q < p → cntP (mark l (.part f q)) f p + 1 ≤ cntP l f p
  | 0, h => absurd h (by omega)
  | p + 1, h => by
    unfold cntP
    by_cases e : q = p
    · subst e
      have h1 := cntP_mono (mark_mono l (.part f q)) f q
      rw [mark_same, hq]
      simp only [if_true, Bool.false_eq_true, if_false]
      omega
    · have ih := cntP_mark hq p (by omega)
      rw [mark_other (show Node.part f p ≠ .part f q from fun e2 => by injection e2 with _ e3; exact e e3.symm)]
      omega
theorem cnt_markP {g : G} {l : L} {f q : Nat} (hq : l (.part f q) = false) (hp : q < g.np f) : ∀ n, f < n → cnt g (mark l (.part f q)) n + 1 ≤ cnt g l n
  | 0, h => absurd h (by omega)
  | n + 1, h => by
    unfold cnt
    rw [mark_other (show Node.file n ≠ .part f q from fun e => by cases e)]
    by_cases e : f = n
    · subst e
      have h1 := cnt_mono (g := g) (mark_mono l (.part f q)) f
      have h2 := cntP_mark hq (g.np f) hp
      omega
    · have ih := cnt_markP hq hp n (by omega)
      have h2 := cntP_mono (mark_mono l (.part f q)) n (g.np n)
      omega
theorem cnt_markF {g : G} {l : L} {f : Nat} (hf : l (.file f) = false) : ∀ n, f < n → cnt g (mark l (.file f)) n + 1 ≤ cnt g l n
  | 0, h => absurd h (by omega)
  | n + 1, h => by
    unfold cnt
    have h2 := cntP_mono (mark_mono l (.file f)) n (g.np n)
    by_cases e : f = n
    · subst e
      have h1 := cnt_mono (g := g) (mark_mono l (.file f)) f
      rw [mark_same, hf]
      simp only [if_true, Bool.false_eq_true, if_false]
      omega
    · have ih := cnt_markF (g := g) hf n (by omega)
      rw [mark_other (show Node.file n ≠ .file f from fun e2 => by injection e2 with e3; exact e e3.symm)]
      omega
theorem Wl.start {g : G} {x : Node} : Wl g x (fun _ => false) (fun y => y = x) := ⟨.inr rfl, fun y h => (by cases h), fun y h => (by cases h), fun y h => by subst h; exact .refl⟩
theorem Wl.skip {g : G} {x d : Node} {l : L} {w : Node → Prop} (h : Wl g x l (fun y => w y ∨ y = d)) (hd : l d = true) : Wl g x l w := by
  refine ⟨?_, fun y hy z hs => ?_, h.reach, fun y hy => h.wreach y (.inl hy)⟩
  · rcases h.at_ with h1 | h1 | h1
    · exact .inl h1
    · exact .inr h1
    · rw [h1]; exact .inl hd
  · rcases h.closed y hy z hs with h1 | h1 | h1
    · exact .inl h1
    · exact .inr h1
    · rw [h1]; exact .inl hd
theorem Wl.mark {g : G} {x : Node} {f p : Nat} {l : L} {w w1 : Node → Prop} (h : Wl g x l (fun y => w y ∨ y = .part f p)) (hw : ∀ y, w y → w1 y) (hdep : ∀ k, k < g.nd f p → w1 (.part (g.dep f p k).1 (g.dep f p k).2))
    (hkeep : l (.file f) = false → ∀ j, j < g.np f → g.kp f j = true → w1 (.part f j)) (hr : ∀ y, w1 y → w y ∨ Step g (.part f p) y ∨ Step g (.file f) y) : Wl g x (Dg.mark (Dg.mark l (.part f p)) (.file f)) w1 := by
  have hd : Re g x (.part f p) := h.wreach _ (.inr rfl)
  have hf : Re g x (.file f) := hd.step (.own f p)
  have m1 : ∀ y, l y = true → Dg.mark (Dg.mark l (.part f p)) (.file f) y = true := fun y hy => mark_mono _ _ _ (mark_mono _ _ _ hy)
  have m2 : Dg.mark (Dg.mark l (.part f p)) (.file f) (.part f p) = true := mark_mono _ _ _ (mark_same _ _)
  have m3 : Dg.mark (Dg.mark l (.part f p)) (.file f) (.file f) = true := mark_same _ _
  have lift : ∀ z, (l z = true ∨ w z ∨ z = .part f p) → Dg.mark (Dg.mark l (.part f p)) (.file f) z = true ∨ w1 z := fun z hz => by
    rcases hz with h1 | h1 | h1
    · exact .inl (m1 z h1)
    · exact .inr (hw z h1)
    · rw [h1]; exact .inl m2
  refine ⟨lift _ h.at_, fun y hy z hs => ?_, fun y hy => ?_, fun y hy => ?_⟩
  · by_cases e1 : y = .file f
    · subst e1
      cases hl : l (.file f) with
      | true => exact lift z (h.closed _ hl z hs)
      | false =>
        cases hs with
        | keep _ j hj hk => exact .inr (hkeep hl j hj hk)
    · rw [mark_other e1] at hy
      by_cases e2 : y = .part f p
      · subst e2
        cases hs with
        | own => exact .inl m3
        | dep _ _ k hk => exact .inr (hdep k hk)
      · rw [mark_other e2] at hy
        exact lift z (h.closed y hy z hs)
  · by_cases e1 : y = .file f
    · subst e1; exact hf
    · rw [mark_other e1] at hy
      by_cases e2 : y = .part f p
      · subst e2; exact hd
      · rw [mark_other e2] at hy
        exact h.reach y hy
  · rcases hr y hy with h1 | h1 | h1
    · exact h.wreach y (.inl h1)
    · exact hd.step h1
    · exact hf.step h1
end Go.Proofs.Ytmjfdhgfpgeboac.Dg
