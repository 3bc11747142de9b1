/-
  Words for memory: a slice that reads as a function of the index; an argument of type []string or []int opened to it. Proved: it is kept where old blocks are kept. No condition.
-/
import Derived.WalkKit
import Derived.Below
import Derived.Deep.Slices
import Derived.Deep.Strs
import Derived.Deep.Draws
import Derived.ChangeSlices
import Derived.ChangeMaps5
import Derived.Laws.AppendOwn
import Derived.Laws.OwnMore
import Derived.Deep.AppendLies
import Derived.Laws.MakeOwn
import Derived.Laws.Rows
namespace Go.Proofs.Ytmjfdhgfpgeboac.Mem
open Go.RowKit Go.ChangeShapes Go.WideShapes Go.Deep

theorem add_none (b off j : Nat) : (⟨b, off, none⟩ : Addr).add j = ⟨b, off + j, none⟩ := by unfold Addr.add; split <;> simp_all

/-- The slice value '.slice A n c' holds, in w, the cells f 0, f 1, .. (size cells an element), in a block below B. -/
def Rd (w : World) (B size : Nat) (A : Option Addr) (n : Nat) (f : Nat → Value) : Prop :=
  0 < n → ∃ b off, A = some ⟨b, off, none⟩ ∧ b < B ∧ ∀ j, j < n * size → w.cell? ⟨b, off + j, none⟩ = some (f j)
theorem Rd.of {w : World} {B size : Nat} {A : Option Addr} {n : Nat} {f : Nat → Value} (h : Rd w B size A n f) (hn : 0 < n) : ∃ b off, A = some ⟨b, off, none⟩ ∧ b < B ∧ ∀ j, j < n * size → w.cell? ⟨b, off + j, none⟩ = some (f j) := h hn
theorem Rd.zero (w : World) (B size : Nat) (A : Option Addr) (f : Nat → Value) : Rd w B size A 0 f := fun h => absurd h (by omega)
theorem Rd.mk {w : World} {B size b off n : Nat} {f : Nat → Value} (hb : b < B) (h : ∀ j, j < n * size → w.cell? ⟨b, off + j, none⟩ = some (f j)) : Rd w B size (some ⟨b, off, none⟩) n f := fun _ => ⟨b, off, rfl, hb, h⟩
theorem Rd.keep {w w' : World} {B size : Nat} {A : Option Addr} {n : Nat} {f : Nat → Value} (h : Rd w B size A n f) (hk : ∀ b o, b < B → w'.cell? ⟨b, o, none⟩ = w.cell? ⟨b, o, none⟩) : Rd w' B size A n f := fun hn => by
  obtain ⟨b, off, e, hb, hc⟩ := h hn
  exact ⟨b, off, e, hb, fun j hj => (hk _ _ hb).trans (hc j hj)⟩
theorem Rd.below {w w' : World} {B size : Nat} {A : Option Addr} {n : Nat} {f : Nat → Value} (h : Rd w B size A n f) (hb : Below B w w') : Rd w' B size A n f :=
  h.keep fun _ _ hlt => hb.cell (p := ⟨_, _, none⟩) hlt
theorem Rd.mono {w : World} {B B' size : Nat} {A : Option Addr} {n : Nat} {f : Nat → Value} (h : Rd w B size A n f) (hB : B ≤ B') : Rd w B' size A n f := fun hn => by
  obtain ⟨b, off, e, hb, hc⟩ := h hn
  exact ⟨b, off, e, by omega, hc⟩
theorem Rd.congr {w : World} {B size : Nat} {A : Option Addr} {n : Nat} {f g : Nat → Value} (h : Rd w B size A n f) (e : ∀ j, j < n * size → f j = g j) : Rd w B size A n g := fun hn => by
  obtain ⟨b, off, ea, hb, hc⟩ := h hn
  exact ⟨b, off, ea, hb, fun j hj => (hc j hj).trans (by rw [e j hj])⟩
theorem Rd.of_own {w : World} {base size n c : Nat} {e : TypeId} {A : Option Addr} {xs : List Value} {d : Value} (h : w.ownsRow base e size (.slice A n c) n xs) : Rd w w.heap.size size A n (fun j => xs.getD j d) := fun hn => by
  obtain ⟨g, cap, hv, _, hlt⟩ := h.form hn
  have hA : A = some ⟨g, 0, none⟩ := by injection hv
  subst hA
  refine ⟨g, 0, rfl, hlt, fun j hj => ?_⟩
  have hl : j < xs.length := by have := h.1; omega
  have := h.cells (g := g) rfl j xs[j] (List.getElem?_eq_getElem hl)
  have e0 : (⟨g, 0, none⟩ : Addr).add j = ⟨g, 0 + j, none⟩ := by unfold Addr.add; split <;> simp_all
  rw [← e0, this]
  show some xs[j] = some (xs.getD j d)
  rw [List.getD_eq_getElem?_getD, List.getElem?_eq_getElem hl]
  rfl

/-! A block that is known whole. -/
def Own (w : World) (g : Nat) (t : TypeId) (cs : Array Value) : Prop := w.heap[g]? = some (.cells cs t (0, 0))
theorem Own.lt {w : World} {g : Nat} {t : TypeId} {cs : Array Value} (h : Own w g t cs) : g < w.heap.size := by
  rcases Nat.lt_or_ge g w.heap.size with hlt | hge
  · exact hlt
  · unfold Own at h; rw [Array.getElem?_eq_none hge] at h; cases h
theorem Own.cell {w : World} {g : Nat} {t : TypeId} {cs : Array Value} (h : Own w g t cs) (i : Nat) : w.cell? ⟨g, i, none⟩ = cs[i]? := by
  unfold Own at h
  simp [World.cell?, h]
theorem Own.frozen {w : World} {g : Nat} {t : TypeId} {cs : Array Value} (h : Own w g t cs) (i : Nat) : w.frozen? ⟨g, i, none⟩ = false := by
  unfold Own at h
  simp [World.frozen?, h]
theorem Own.new (w : World) (t : TypeId) (cs : Array Value) : Own (w.alloc (.cells cs t)) w.heap.size t cs := by
  exact heap_alloc_new w _
theorem Own.below {w w' : World} {B g : Nat} {t : TypeId} {cs : Array Value} (h : Own w g t cs) (hb : Below B w w') (hg : g < B) : Own w' g t cs := (hb.block g hg).trans h
theorem Own.alloc {w : World} {g : Nat} {t : TypeId} {cs : Array Value} (h : Own w g t cs) (o : Obj) : Own (w.alloc o) g t cs := (Below.heap_alloc w o g h.lt).trans h
theorem Own.drewN {w : World} {g : Nat} {t : TypeId} {cs : Array Value} (h : Own w g t cs) (n : Nat) : Own (w.drewN n) g t cs := h
theorem Own.drew {w : World} {g : Nat} {t : TypeId} {cs : Array Value} (h : Own w g t cs) : Own w.drew g t cs := h
theorem Own.set {w : World} {g : Nat} {t : TypeId} {cs : Array Value} (h : Own w g t cs) (i : Nat) (u : Value) : Own (w.setCell ⟨g, i, none⟩ u) g t (cs.setIfInBounds i u) := by
  unfold Own at h ⊢
  simp [World.setCell, Array.getElem?_modify, h]
theorem Own.far {w : World} {g : Nat} {t : TypeId} {cs : Array Value} (h : Own w g t cs) {p : Addr} (hp : g ≠ p.block) (u : Value) : Own (w.setCell p u) g t cs := (Below.heap_setCell w p u g hp).trans h
theorem Own.rd {w : World} {g : Nat} {t : TypeId} {cs : Array Value} (h : Own w g t cs) {size n : Nat} {f : Nat → Value} (hc : ∀ j, j < n * size → cs[j]? = some (f j)) : Rd w w.heap.size size (some ⟨g, 0, none⟩) n f :=
  fun _ => ⟨g, 0, rfl, h.lt, fun j hj => by rw [h.cell, Nat.zero_add]; exact hc j hj⟩
theorem below_drewN {B : Nat} {a w : World} (h : Below B a w) (n : Nat) : Below B a (w.drewN n) := ⟨h.os, h.tape, h.output, h.size, h.block⟩

/-- make([]T, n, c): the new block's cells, an element's zero over and over. -/
theorem run_mk {P : Program} (t e : TypeId) (z : Value) (sz by_ : Nat) (ht : P.underlying t = some (.slice e)) (hi : (P.info? e).map (fun i => (i.zero, i.size, i.bytes)) = some (some z, sz, by_))
    (n c : Nat) (hnc : n ≤ c) (hb : by_ * c ≤ 281474976710656) (h63 : c ≤ 9223372036854775807) (w : World) :
    (Instr.makeSlice t (.int .i64 (n : Int)) (.int .i64 (c : Int))).run P w = .ok (.slice (some ⟨w.heap.size, 0, none⟩) n c) (w.alloc (.cells (madeCells z.cells (c * sz)) e)) := by
  obtain ⟨i, h1, h2⟩ : ∃ i, P.info? e = some i ∧ (i.zero, i.size, i.bytes) = (some z, sz, by_) := by
    cases hh : P.info? e with
    | none => rw [hh] at hi; cases hi
    | some i => rw [hh] at hi; exact ⟨i, rfl, by simpa using hi⟩
  simp only [Prod.mk.injEq] at h2
  have hb' : (i.bytes : Int) * (c : Int) ≤ 281474976710656 := by
    rw [h2.2.2]
    have h : ((by_ * c : Nat) : Int) ≤ 281474976710656 := by omega
    rwa [Int.natCast_mul] at h
  have hr := run_make (P := P) w t e i z ht h1 h2.1 .i64 .i64 n c (by omega) (by omega) hb' (by omega)
  simp only [Int.toNat_natCast, h2.2.1] at hr
  exact hr
/-- The same, the zero's cells under a name of their own. -/
theorem run_mkc {P : Program} (t e : TypeId) (z : Value) (zc : Array Value) (hzc : z.cells = zc) (sz by_ : Nat) (ht : P.underlying t = some (.slice e)) (hi : (P.info? e).map (fun i => (i.zero, i.size, i.bytes)) = some (some z, sz, by_))
    (n c : Nat) (hnc : n ≤ c) (hb : by_ * c ≤ 281474976710656) (h63 : c ≤ 9223372036854775807) (w : World) :
    (Instr.makeSlice t (.int .i64 (n : Int)) (.int .i64 (c : Int))).run P w = .ok (.slice (some ⟨w.heap.size, 0, none⟩) n c) (w.alloc (.cells (madeCells zc (c * sz)) e)) := by
  subst hzc
  exact run_mk t e z sz by_ ht hi n c hnc hb h63 w
theorem made_at (z : Array Value) (m j : Nat) (h : j < m) : (madeCells z m)[j]? = some (z[j % z.size]!) := by
  simp [madeCells, h]

/-! Rows of strings of the call's own. -/
def strsV (S : Nat → ByteArray) (k : Nat) : List Value := (List.range k).map fun j => .string (S j)
theorem strsV_succ (S : Nat → ByteArray) (k : Nat) : strsV S (k + 1) = strsV S k ++ [.string (S k)] := by simp [strsV, List.range_succ]
theorem Rd.of_strs {w : World} {base n c : Nat} {e : TypeId} {A : Option Addr} {S : Nat → ByteArray} (h : w.ownsRow base e 1 (.slice A n c) n (strsV S n)) : Rd w w.heap.size 1 A n (fun j => .string (S j)) :=
  (Rd.of_own (d := .string ByteArray.empty) h).congr fun j hj => by
    have : j < n := by omega
    simp [strsV, this]

section
variable {H : Type} {enc : TypeId × Value → H} {P : Program} {w : World}
/-- An argument of type []string. -/
theorem open_strings {t e : TypeId} {v : Value} {d : DataW H} {ps : List MemPlace} {b0 : Nat} (ht : P.underlying t = some (.slice e)) (he : P.underlying e = some .string) (hc : P.cellsOf e = 1)
    (hval : Value.okWide P w .any b0 t v) (h : DataW.Trod enc P w 0 (fun _ => true) true t v d ps) :
    ∃ (A : Option Addr) (n c : Nat) (S : Nat → ByteArray), v = .slice A n c ∧ n ≤ c ∧ c ≤ maxLen ∧ (A = none → n = 0 ∧ c = 0) ∧ Rd w w.heap.size 1 A n (fun j => .string (S j)) ∧ ∀ j, j < n → (S j).size ≤ maxLen := by
  obtain ⟨A, n, c, rfl⟩ : ∃ A n c, v = .slice A n c := by
    cases v <;> simp [Value.okWide, ht, Cell.okWide, Cell.ok] at hval ⊢
  obtain ⟨fuel, hf⟩ := h
  rcases open_strs ht he hc hf with ⟨hcs, _⟩ | ⟨a, len, cap, m, S, hcs, _, hl, hm, hmm, _, hx⟩
  · simp [Value.cells] at hcs
    obtain ⟨rfl, rfl, rfl⟩ := hcs
    exact ⟨none, 0, 0, fun _ => ByteArray.empty, rfl, Nat.le_refl _, by unfold maxLen; omega, fun _ => ⟨rfl, rfl⟩, Rd.zero _ _ _ _ _, fun j hj => absurd hj (by omega)⟩
  · simp [Value.cells] at hcs
    obtain ⟨rfl, rfl, rfl⟩ := hcs
    have hmc : m = c := by simpa using hmm
    subst hmc
    refine ⟨some a, n, m, S, rfl, hl, hm, (fun h => by cases h), ?_, fun j hj => (hx j (by omega)).2⟩
    intro hn
    obtain ⟨b, off, spot⟩ := a
    have hspot : spot = none := by simpa [Addr.add] using World.cell?_spot (hx 0 (by omega)).1
    subst hspot
    have e0 : ∀ j, (⟨b, off, none⟩ : Addr).add j = ⟨b, off + j, none⟩ := fun j => add_none b off j
    refine ⟨b, off, rfl, ?_, fun j hj => by rw [← e0]; exact (hx j (by omega)).1⟩
    have h0 := (hx 0 (by omega)).1
    rw [e0] at h0
    rcases Nat.lt_or_ge b w.heap.size with hlt | hge
    · exact hlt
    · exfalso
      have : w.heap[b]? = none := Array.getElem?_eq_none hge
      simp [World.cell?, this] at h0
/-- An argument that is a slice of integers. -/
theorem open_ints' {t e : TypeId} {k : IntKind} {v : Value} {d : DataW H} {ps : List MemPlace} {b0 : Nat} (ht : P.underlying t = some (.slice e)) (he : P.underlying e = some (.int k)) (hc : P.cellsOf e = 1)
    (hval : Value.okWide P w .any b0 t v) (h : DataW.Trod enc P w 0 (fun _ => true) true t v d ps) :
    ∃ (A : Option Addr) (n c : Nat) (Z : Nat → Int), v = .slice A n c ∧ n ≤ c ∧ c ≤ maxLen ∧ (A = none → n = 0 ∧ c = 0) ∧ Rd w w.heap.size 1 A n (fun j => .int k (Z j)) ∧ ∀ j, j < n → (Lit.int k (Z j)).wf = true := by
  obtain ⟨A, n, c, rfl⟩ : ∃ A n c, v = .slice A n c := by
    cases v <;> simp [Value.okWide, ht, Cell.okWide, Cell.ok] at hval ⊢
  obtain ⟨fuel, hf⟩ := h
  rcases Go.ChangeShapes.open_ints ht he hc hf with ⟨hcs, _⟩ | ⟨a, len, cap, zs, hcs, _, hl, hm, hzl, _, hx, hwf⟩
  · simp [Value.cells] at hcs
    obtain ⟨rfl, rfl, rfl⟩ := hcs
    exact ⟨none, 0, 0, fun _ => 0, rfl, Nat.le_refl _, by unfold maxLen; omega, fun _ => ⟨rfl, rfl⟩, Rd.zero _ _ _ _ _, fun j hj => absurd hj (by omega)⟩
  · simp [Value.cells] at hcs
    obtain ⟨rfl, rfl, rfl⟩ := hcs
    have hzc : zs.length = c := by simpa using hzl
    refine ⟨some a, n, c, fun j => zs.getD j 0, rfl, hl, hm, (fun h => by cases h), ?_, fun j hj => ?_⟩
    · intro hn
      obtain ⟨b, off, spot⟩ := a
      have hspot : spot = none := by simpa [Addr.add] using World.cell?_spot (hx 0 (by omega))
      subst hspot
      have e0 : ∀ j, (⟨b, off, none⟩ : Addr).add j = ⟨b, off + j, none⟩ := fun j => add_none b off j
      refine ⟨b, off, rfl, ?_, fun j hj => by rw [← e0]; exact hx j (by omega)⟩
      have h0 := hx 0 (by omega)
      rw [e0] at h0
      rcases Nat.lt_or_ge b w.heap.size with hlt | hge
      · exact hlt
      · exfalso
        have : w.heap[b]? = none := Array.getElem?_eq_none hge
        simp [World.cell?, this] at h0
    · have hjl : j < zs.length := by omega
      refine hwf _ ?_
      show zs.getD j 0 ∈ zs
      rw [List.getD_eq_getElem?_getD, List.getElem?_eq_getElem hjl]
      exact List.getElem_mem hjl
end
end Go.Proofs.Ytmjfdhgfpgeboac.Mem
