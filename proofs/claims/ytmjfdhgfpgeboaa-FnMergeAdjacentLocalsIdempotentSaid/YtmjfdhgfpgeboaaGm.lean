/-
  Statements in memory: an expression statement, a local statement with its declarations, the row of statements. Conditions: none.
-/
import Derived.Test.YtmjfdhgfpgeboaaGa
import Derived.Laws.AppendOwn
namespace Go.Proofs.Ytmjfdhgfpgeboaa.Gm
open Go.RowKit Go.PlainAid Mem Sz Ga
set_option linter.unusedVariables false

def exprC : Array Value := #[.nilIface, .int .i32 0, .bool false]
def Decls (w : World) (ql qh n : Nat) (xs : List Value) : Prop :=
  ∀ j, j < n → ∃ (q : Nat) (a b x y : Int), xs[j * 4]? = some (.iface 49 (.pointer (some ⟨q, 0, none⟩))) ∧ xs[j * 4 + 1]? = some (.int .i32 x) ∧ xs[j * 4 + 2]? = some .nilIface ∧ xs[j * 4 + 3]? = some (.int .i32 y) ∧
    ql ≤ q ∧ q < qh ∧ Own w q 53 #[.int .u32 a, .int .u32 b]
def LocS (w : World) (lo hi ql qh N p : Nat) (kd : Int) (ex : Bool) : Prop :=
  ∃ (d n c : Nat) (xs : List Value) (y : Bool), lo ≤ p ∧ p < hi ∧ lo ≤ d ∧ d < hi ∧ p ≠ d ∧ n ≤ N ∧ Own w p 63 #[.slice (some ⟨d, 0, none⟩) n c, .int .u8 kd, .bool ex, .bool y] ∧
    w.ownsRow 0 59 4 (.slice (some ⟨d, 0, none⟩) n c) n xs ∧ Decls w ql qh n xs
def Ent (w : World) (lo hi ql qh N : Nat) (v : Value) (C : Option (Int × Bool)) : Prop :=
  (C = none ∧ ∃ p, v = .iface 41 (.pointer (some ⟨p, 0, none⟩)) ∧ lo ≤ p ∧ p < hi ∧ Own w p 47 exprC) ∨
  ∃ (p : Nat) (kd : Int) (ex : Bool), C = some (kd, ex) ∧ v = .iface 60 (.pointer (some ⟨p, 0, none⟩)) ∧ LocS w lo hi ql qh N p kd ex

/-- w' agrees with w on the blocks from lo to hi. -/
def Eqs (lo hi : Nat) (w w' : World) : Prop := ∀ b, lo ≤ b → b < hi → w'.heap[b]? = w.heap[b]?
theorem Eqs.below {w w' : World} {B lo hi : Nat} (h : Below B w w') (hh : hi ≤ B) : Eqs lo hi w w' := fun b _ h2 => h.block b (by omega)
theorem Eqs.mono {lo hi lo' hi' : Nat} {w w' : World} (h : Eqs lo hi w w') (h1 : lo ≤ lo') (h2 : hi' ≤ hi) : Eqs lo' hi' w w' := fun b a c => h b (by omega) (by omega)
theorem Eqs.refl (lo hi : Nat) (w : World) : Eqs lo hi w w := fun _ _ _ => rfl
theorem Eqs.trans {lo hi : Nat} {w w1 w2 : World} (h : Eqs lo hi w w1) (k : Eqs lo hi w1 w2) : Eqs lo hi w w2 := fun b a c => (k b a c).trans (h b a c)
theorem Own.eqs {w w' : World} {lo hi p : Nat} {t : TypeId} {cs : Array Value} (h : Own w p t cs) (k : Eqs lo hi w w') (h1 : lo ≤ p) (h2 : p < hi) : Own w' p t cs := (k p h1 h2).trans h
theorem Decls.eqs {w w' : World} {ql qh n : Nat} {xs : List Value} (h : Decls w ql qh n xs) (k : Eqs ql qh w w') : Decls w' ql qh n xs := fun j hj => by
  obtain ⟨q, a, b, x, y, h1, h2, h3, h4, h5, h6, h7⟩ := h j hj
  exact ⟨q, a, b, x, y, h1, h2, h3, h4, h5, h6, Own.eqs h7 k h5 h6⟩
theorem row_eqs {w w' : World} {lo hi d n c : Nat} {xs : List Value} (h : w.ownsRow 0 59 4 (.slice (some ⟨d, 0, none⟩) n c) n xs) (k : w'.heap[d]? = w.heap[d]?) : w'.ownsRow 0 59 4 (.slice (some ⟨d, 0, none⟩) n c) n xs := by
  obtain ⟨h1, h2⟩ := h
  refine ⟨h1, h2.imp id fun ⟨g, cap, cur, e, r1, r2, r3⟩ => ⟨g, cap, cur, e, r1, ?_, r3⟩⟩
  obtain ⟨rfl, rfl⟩ : d = g ∧ c = cap := by simpa using e
  exact k.trans r2
theorem LocS.eqs {w w' : World} {lo hi ql qh N p : Nat} {kd : Int} {ex : Bool} (h : LocS w lo hi ql qh N p kd ex) (k : Eqs lo hi w w') (k' : Eqs ql qh w w') : LocS w' lo hi ql qh N p kd ex := by
  obtain ⟨d, n, c, xs, y, h1, h2, h3, h4, h5, h6, h7, h8, h9⟩ := h
  exact ⟨d, n, c, xs, y, h1, h2, h3, h4, h5, h6, Own.eqs h7 k h1 h2, row_eqs (lo := lo) (hi := hi) h8 (k d h3 h4), h9.eqs k'⟩
theorem LocS.widen {w : World} {lo hi ql qh N lo' hi' ql' qh' N' p : Nat} {kd : Int} {ex : Bool} (h : LocS w lo hi ql qh N p kd ex) (h1 : lo' ≤ lo) (h2 : hi ≤ hi') (h3 : ql' ≤ ql) (h4 : qh ≤ qh') (h5 : N ≤ N') : LocS w lo' hi' ql' qh' N' p kd ex := by
  obtain ⟨d, n, c, xs, y, a1, a2, a3, a4, a5, a6, a7, a8, a9⟩ := h
  exact ⟨d, n, c, xs, y, by omega, by omega, by omega, by omega, a5, by omega, a7, a8, fun j hj => by
    obtain ⟨q, a, b, x, y, b1, b2, b3, b4, b5, b6, b7⟩ := a9 j hj
    exact ⟨q, a, b, x, y, b1, b2, b3, b4, by omega, by omega, b7⟩⟩
theorem Ent.eqs {w w' : World} {lo hi ql qh N : Nat} {v : Value} {C : Option (Int × Bool)} (h : Ent w lo hi ql qh N v C) (k : Eqs lo hi w w') (k' : Eqs ql qh w w') : Ent w' lo hi ql qh N v C := by
  rcases h with ⟨h1, p, h2, h3, h4, h5⟩ | ⟨p, kd, ex, h1, h2, h3⟩
  · exact .inl ⟨h1, p, h2, h3, h4, Own.eqs h5 k h3 h4⟩
  · exact .inr ⟨p, kd, ex, h1, h2, h3.eqs k k'⟩
theorem Ent.widen {w : World} {lo hi ql qh N lo' hi' ql' qh' N' : Nat} {v : Value} {C : Option (Int × Bool)} (h : Ent w lo hi ql qh N v C) (h1 : lo' ≤ lo) (h2 : hi ≤ hi') (h3 : ql' ≤ ql) (h4 : qh ≤ qh') (h5 : N ≤ N') : Ent w lo' hi' ql' qh' N' v C := by
  rcases h with ⟨a1, p, a2, a3, a4, a5⟩ | ⟨p, kd, ex, a1, a2, a3⟩
  · exact .inl ⟨a1, p, a2, by omega, by omega, a5⟩
  · exact .inr ⟨p, kd, ex, a1, a2, a3.widen h1 h2 h3 h4 h5⟩

/-- The row of n statements at block rb. -/
def Row (w : World) (rb n : Nat) (cs : Array Value) (V : Nat → Value) (l : Nat → Int) : Prop :=
  Own w rb 37 cs ∧ cs.size = n * 2 ∧ ∀ i, i < n → cs[i * 2]? = some (V i) ∧ cs[i * 2 + 1]? = some (.int .i32 (l i))

/-- A make of declarations that is full. -/
theorem row_of_own {w : World} {d n : Nat} {cs : Array Value} (h : Own w d 59 cs) (hs : cs.size = n * 4) (hn : n ≤ maxLen) : w.ownsRow 0 59 4 (.slice (some ⟨d, 0, none⟩) n n) n cs.toList :=
  ⟨by simpa using hs, .inr ⟨d, n, cs, rfl, Nat.zero_le _, h, Nat.le_refl _, hn, hs, by rw [← hs, ← Array.length_toList, List.take_length]⟩⟩
end Go.Proofs.Ytmjfdhgfpgeboaa.Gm
