/-
  Words for rows of cells in a block known whole: several cells stored at once, two rows exchanged. Proved: what each cell holds behind it. No condition.
-/
import Derived.Test.YtmjfdhgfpgeboacMem
import Derived.Deep.MidRow
namespace Go.Proofs.Ytmjfdhgfpgeboac.Rws
open Go.RowKit Mem
set_option linter.unusedVariables false
theorem below_drew {B : Nat} {a w : World} (h : Below B a w) : Below B a w.drew := ⟨h.os, h.tape, h.output, h.size, h.block⟩
theorem there_below {W W1 : World} {g o n : Nat} (h : W.there g o n) (hg : g < W.heap.size) (hb : Below W.heap.size W W1) : W1.there g o n := fun j hj => by
  obtain ⟨h1, h2⟩ := h j hj
  exact ⟨by rw [hb.cell (p := ⟨g, o + j, none⟩) hg]; exact h1, by rw [hb.frozen (p := ⟨g, o + j, none⟩) hg]; exact h2⟩
theorem size_setCells (b : Nat) : ∀ (vs : List Value) (o : Nat) (w : World), (w.setCells b o vs).heap.size = w.heap.size
  | [], _, _ => rfl
  | v :: r, o, w => by rw [World.setCells, size_setCells b r, World.size_setCell]
theorem below_setCells {B : Nat} {a : World} (b : Nat) (hB : B ≤ b) : ∀ (vs : List Value) (o : Nat) (w : World), Below B a w → Below B a (w.setCells b o vs)
  | [], _, _, h => h
  | v :: r, o, w, h => by rw [World.setCells]; exact below_setCells b hB r _ _ (h.setCell hB _)
theorem Own.there {w : World} {g : Nat} {t : TypeId} {cs : Array Value} (h : Own w g t cs) (o n : Nat) (hn : o + n ≤ cs.size) : w.there g o n := fun j hj => by
  refine ⟨?_, h.frozen _⟩
  rw [h.cell, Array.getElem?_eq_getElem (by omega)]
  rfl
/-- An array whose cells from o on are vs. -/
def putL (cs : Array Value) : Nat → List Value → Array Value
  | _, [] => cs
  | o, v :: r => putL (cs.setIfInBounds o v) (o + 1) r
theorem putL_size : ∀ (vs : List Value) (o : Nat) (cs : Array Value), (putL cs o vs).size = cs.size
  | [], _, _ => rfl
  | v :: r, o, cs => by rw [putL, putL_size r]; simp
theorem putL_out : ∀ (vs : List Value) (o : Nat) (cs : Array Value) (j : Nat), j < o ∨ o + vs.length ≤ j → (putL cs o vs)[j]? = cs[j]?
  | [], _, _, _, _ => rfl
  | v :: r, o, cs, j, h => by
    rw [putL, putL_out r _ _ j (by simp at h; omega), Array.getElem?_setIfInBounds, if_neg (by simp at h; omega)]
theorem putL_in : ∀ (vs : List Value) (o : Nat) (cs : Array Value) (j : Nat) (hj : j < vs.length), o + j < cs.size → (putL cs o vs)[o + j]? = some vs[j]
  | v :: r, o, cs, 0, _, h => by
    rw [putL, putL_out r _ _ _ (by omega), Array.getElem?_setIfInBounds, if_pos (by omega), if_pos (by omega)]; rfl
  | v :: r, o, cs, j + 1, hj, h => by
    rw [putL, show o + (j + 1) = o + 1 + j by omega, putL_in r (o + 1) _ j (by simpa using hj) (by simp; omega)]; rfl
theorem Own.setCells {g : Nat} {t : TypeId} : ∀ (vs : List Value) (o : Nat) (w : World) (cs : Array Value), Own w g t cs → Own (w.setCells g o vs) g t (putL cs o vs)
  | [], _, _, _, h => h
  | v :: r, o, w, cs, h => by rw [World.setCells, putL]; exact Own.setCells r _ _ _ (h.set o v)
theorem Own.farCells {g b : Nat} {t : TypeId} {cs : Array Value} (hb : g ≠ b) : ∀ (vs : List Value) (o : Nat) (w : World), Own w g t cs → Own (w.setCells b o vs) g t cs
  | [], _, _, h => h
  | v :: r, o, w, h => by rw [World.setCells]; exact Own.farCells hb r _ _ (h.far (p := ⟨b, o, none⟩) hb v)
theorem Rd.farCells {w : World} {B size : Nat} {A : Option Addr} {n : Nat} {f : Nat → Value} (h : Rd w B size A n f) (g o : Nat) (vs : List Value) (hg : B ≤ g) : Rd (w.setCells g o vs) B size A n f :=
  h.keep fun b o hb => World.cell?_setCells_out _ _ _ _ _ (fun e _ => absurd e (by show b ≠ g; omega))
/-! A block of n rows of m cells. -/
def Cells (w : World) (g : Nat) (t : TypeId) (k : Nat) (F : Nat → Value) : Prop := ∃ cs, Own w g t cs ∧ cs.size = k ∧ ∀ l, l < k → cs[l]? = some (F l)
theorem Cells.cell {w : World} {g : Nat} {t : TypeId} {k : Nat} {F : Nat → Value} (h : Cells w g t k F) {l : Nat} (hl : l < k) : w.cell? ⟨g, l, none⟩ = some (F l) := by
  obtain ⟨cs, ho, hs, hc⟩ := h
  rw [ho.cell]; exact hc l hl
theorem Cells.frozen {w : World} {g : Nat} {t : TypeId} {k : Nat} {F : Nat → Value} (h : Cells w g t k F) (l : Nat) : w.frozen? ⟨g, l, none⟩ = false := by
  obtain ⟨cs, ho, hs, hc⟩ := h
  exact ho.frozen l
theorem Cells.lt {w : World} {g : Nat} {t : TypeId} {k : Nat} {F : Nat → Value} (h : Cells w g t k F) : g < w.heap.size := by
  obtain ⟨cs, ho, hs, hc⟩ := h
  exact ho.lt
theorem Cells.there {w : World} {g : Nat} {t : TypeId} {k : Nat} {F : Nat → Value} (h : Cells w g t k F) (o n : Nat) (hn : o + n ≤ k) : w.there g o n := by
  obtain ⟨cs, ho, hs, hc⟩ := h
  exact Own.there ho o n (by omega)
theorem Cells.below {w w' : World} {g B : Nat} {t : TypeId} {k : Nat} {F : Nat → Value} (h : Cells w g t k F) (hb : Below B w w') (hg : g < B) : Cells w' g t k F := by
  obtain ⟨cs, ho, hs, hc⟩ := h
  exact ⟨cs, ho.below hb hg, hs, hc⟩
theorem Cells.drew {w : World} {g : Nat} {t : TypeId} {k : Nat} {F : Nat → Value} (h : Cells w g t k F) : Cells w.drew g t k F := h
theorem Cells.drewN {w : World} {g : Nat} {t : TypeId} {k : Nat} {F : Nat → Value} (h : Cells w g t k F) (n : Nat) : Cells (w.drewN n) g t k F := h
theorem Cells.alloc {w : World} {g : Nat} {t : TypeId} {k : Nat} {F : Nat → Value} (h : Cells w g t k F) (o : Obj) : Cells (w.alloc o) g t k F := by
  obtain ⟨cs, ho, hs, hc⟩ := h
  exact ⟨cs, ho.alloc o, hs, hc⟩
theorem Cells.congr {w : World} {g : Nat} {t : TypeId} {k : Nat} {F G : Nat → Value} (h : Cells w g t k F) (e : ∀ l, l < k → F l = G l) : Cells w g t k G := by
  obtain ⟨cs, ho, hs, hc⟩ := h
  exact ⟨cs, ho, hs, fun l hl => (hc l hl).trans (by rw [e l hl])⟩
theorem Cells.far {w : World} {g b : Nat} {t : TypeId} {k : Nat} {F : Nat → Value} (h : Cells w g t k F) (hb : g ≠ b) (o : Nat) (vs : List Value) : Cells (w.setCells b o vs) g t k F := by
  obtain ⟨cs, ho, hs, hc⟩ := h
  exact ⟨cs, Own.farCells hb vs o w ho, hs, hc⟩
/-- Cells stored from o on. -/
def over (F : Nat → Value) (o : Nat) (vs : List Value) (l : Nat) : Value := if o ≤ l ∧ l < o + vs.length then vs.getD (l - o) undef else F l
theorem Cells.set {w : World} {g : Nat} {t : TypeId} {k : Nat} {F : Nat → Value} (h : Cells w g t k F) (o : Nat) (vs : List Value) : Cells (w.setCells g o vs) g t k (over F o vs) := by
  obtain ⟨cs, ho, hs, hc⟩ := h
  refine ⟨putL cs o vs, Own.setCells vs o w cs ho, by rw [putL_size]; exact hs, fun l hl => ?_⟩
  unfold over
  by_cases hin : o ≤ l ∧ l < o + vs.length
  · rw [if_pos hin]
    obtain ⟨r, rfl⟩ : ∃ r, l = o + r := ⟨l - o, by omega⟩
    rw [putL_in vs o cs r (by omega) (by omega), show o + r - o = r by omega, List.getD_eq_getElem?_getD, List.getElem?_eq_getElem (by omega)]
    rfl
  · rw [if_neg hin, putL_out vs o cs l (by omega)]
    exact hc l hl
/-- Rows i and j (of m cells each) exchanged. -/
def swp (m i j : Nat) (F : Nat → Value) (l : Nat) : Value := if l / m = i then F (j * m + l % m) else if l / m = j then F (i * m + l % m) else F l
theorem divm {m q r : Nat} (hr : r < m) : (q * m + r) / m = q ∧ (q * m + r) % m = r := by
  have hm : 0 < m := by omega
  refine ⟨?_, ?_⟩
  · rw [Nat.add_comm, Nat.add_mul_div_right _ _ hm, Nat.div_eq_of_lt hr, Nat.zero_add]
  · rw [Nat.add_comm, Nat.add_mul_mod_self_right, Nat.mod_eq_of_lt hr]
theorem swp_at {m i j q r : Nat} {F : Nat → Value} (hr : r < m) : swp m i j F (q * m + r) = if q = i then F (j * m + r) else if q = j then F (i * m + r) else F (q * m + r) := by
  unfold swp
  rw [(divm hr).1, (divm hr).2]
theorem swp_comm {m i j l : Nat} {F : Nat → Value} (hm : 0 < m) : swp m i j F l = swp m j i F l := by
  obtain ⟨q, r, hr, rfl⟩ : ∃ q r, r < m ∧ l = q * m + r := ⟨l / m, l % m, Nat.mod_lt _ hm, by rw [Nat.mul_comm]; exact (Nat.div_add_mod l m).symm⟩
  rw [swp_at hr, swp_at hr]
  by_cases h1 : q = i
  · rw [if_pos h1]
    by_cases h2 : q = j
    · rw [if_pos h2]; subst h1; subst h2; rfl
    · rw [if_neg h2, if_pos h1]
  · rw [if_neg h1]
    by_cases h2 : q = j
    · rw [if_pos h2, if_pos h2]
    · rw [if_neg h2, if_neg h2, if_neg h1]
theorem swp_swp {m i j l : Nat} {F : Nat → Value} (hm : 0 < m) : swp m i j (swp m i j F) l = F l := by
  obtain ⟨q, r, hr, rfl⟩ : ∃ q r, r < m ∧ l = q * m + r := ⟨l / m, l % m, Nat.mod_lt _ hm, by rw [Nat.mul_comm]; exact (Nat.div_add_mod l m).symm⟩
  rw [swp_at hr, swp_at hr, swp_at hr, swp_at hr]
  by_cases h1 : q = i
  · subst h1
    by_cases h2 : j = q
    · subst h2; simp
    · simp [h2]
  · by_cases h2 : q = j
    · subst h2; simp [h1]
    · simp [h1, h2]
theorem over_at {F : Nat → Value} {m q i r : Nat} {vs : List Value} (hl : vs.length = m) (hr : r < m) : over F (i * m) vs (q * m + r) = if q = i then vs.getD r undef else F (q * m + r) := by
  unfold over
  rw [hl]
  by_cases h : q = i
  · subst h
    rw [if_pos (by omega), if_pos rfl, show q * m + r - q * m = r by omega]
  · rw [if_neg h, if_neg]
    intro h2
    rcases Nat.lt_or_gt_of_ne h with h3 | h3
    · have := Nat.mul_le_mul_right m (show q + 1 ≤ i from h3)
      rw [Nat.add_mul, Nat.one_mul] at this
      omega
    · have := Nat.mul_le_mul_right m (show i + 1 ≤ q from h3)
      rw [Nat.add_mul, Nat.one_mul] at this
      omega
/-- The world behind an exchange of two rows, in whatever order the stores came. -/
def Sw (m g i j : Nat) (xi xj : List Value) (w w' : World) : Prop :=
  w' = ((w.setCells g (i * m) xj).setCells g (j * m) xi).drew ∨ w' = ((w.setCells g (j * m) xi).setCells g (i * m) xj).drew
theorem Sw.own {m g i j k : Nat} {xi xj : List Value} {w w' : World} {t : TypeId} {F : Nat → Value} (h : Sw m g i j xi xj w w') (hc : Cells w g t k F) (li : xi.length = m) (lj : xj.length = m)
    (hi : ∀ r, r < m → xi.getD r undef = F (i * m + r)) (hj : ∀ r, r < m → xj.getD r undef = F (j * m + r)) (hm : 0 < m) : Cells w' g t k (swp m i j F) := by
  rcases h with rfl | rfl
  · refine (((hc.set (i * m) xj).set (j * m) xi).drew).congr fun l hl => ?_
    obtain ⟨q, r, hr, rfl⟩ : ∃ q r, r < m ∧ l = q * m + r := ⟨l / m, l % m, Nat.mod_lt _ hm, by rw [Nat.mul_comm]; exact (Nat.div_add_mod l m).symm⟩
    rw [over_at li hr, over_at lj hr, swp_at hr, hi r hr, hj r hr]
    by_cases h2 : q = i
    · subst h2
      by_cases h1 : q = j
      · subst h1; simp
      · simp [h1]
    · by_cases h1 : q = j
      · subst h1; simp [h2]
      · simp [h1, h2]
  · refine (((hc.set (j * m) xi).set (i * m) xj).drew).congr fun l hl => ?_
    obtain ⟨q, r, hr, rfl⟩ : ∃ q r, r < m ∧ l = q * m + r := ⟨l / m, l % m, Nat.mod_lt _ hm, by rw [Nat.mul_comm]; exact (Nat.div_add_mod l m).symm⟩
    rw [over_at lj hr, over_at li hr, swp_at hr, hi r hr, hj r hr]
theorem Sw.far {m g i j b k : Nat} {xi xj : List Value} {w w' : World} {t : TypeId} {F : Nat → Value} (h : Sw m g i j xi xj w w') (hc : Cells w b t k F) (hb : b ≠ g) : Cells w' b t k F := by
  rcases h with rfl | rfl <;> exact ((hc.far hb _ _).far hb _ _).drew
theorem Sw.below {m g i j B : Nat} {xi xj : List Value} {a w w' : World} (h : Sw m g i j xi xj w w') (hb : Below B a w) (hB : B ≤ g) : Below B a w' := by
  rcases h with rfl | rfl <;> exact below_drew (below_setCells _ hB _ _ _ (below_setCells _ hB _ _ _ hb))
theorem Sw.size {m g i j : Nat} {xi xj : List Value} {w w' : World} (h : Sw m g i j xi xj w w') : w'.heap.size = w.heap.size := by
  rcases h with rfl | rfl <;> (show (World.setCells _ _ _ _).heap.size = _; rw [size_setCells, size_setCells])
theorem Sw.rd {m g i j B size n : Nat} {xi xj : List Value} {w w' : World} {A : Option Addr} {f : Nat → Value} (h : Sw m g i j xi xj w w') (hr : Rd w B size A n f) (hB : B ≤ g) : Rd w' B size A n f := by
  rcases h with rfl | rfl <;> exact Rd.farCells (Rd.farCells hr _ _ _ hB) _ _ _ hB
end Go.Proofs.Ytmjfdhgfpgeboac.Rws
