/-
  Proved: the cells of a row of messages can be read, a row is kept while its block is, and each row of the joined list is a row of the one list or of
  the other. Conditions: those that each theorem names as its hypotheses, and no others.
-/
import Derived.Test.YtmjfdhgfpgeboadCe
import Derived.Test.YtmjfdhgfpgeboadBy
import Derived.Test.YtmjfdhgfpgeboadTy
namespace Go.Proofs.Ytmjfdhgfpgeboad.Lw
open Go.RowKit Go.PlainAid Mem Ho Rws Orw Lcs Msr Pg Idp Ct Lp Cl Bm Cv Ce
set_option linter.unusedVariables false
theorem row_cells {W : World} {lo n c : Nat} {A : Option Addr} {R : Nat → MR} (h : W.ownsRow lo 43 8 (.slice A n c) n (flatR R n)) {i : Nat} (hi : i < n) : ∃ g, A = some ⟨g, 0, none⟩ ∧ ∀ q, q < 8 → W.cell? ⟨g, i * 8 + q, none⟩ = (R i).cells[q]? := by
  obtain ⟨g, rfl⟩ := row_some h (by omega)
  refine ⟨g, rfl, fun q hq => ?_⟩
  rw [row_at h _ (by rw [flatR_length]; omega)]
  exact flatR_at R n i hi q hq
theorem row_keep {W W1 : World} {B lo sz n : Nat} {e : TypeId} {v : Value} {xs : List Value} (h : W.ownsRow lo e sz v n xs) (hb : Below B W W1) (hl : ∀ g, v.ownBlock = some g → g < B) : W1.ownsRow lo e sz v n xs := by
  refine ⟨h.1, h.2.imp id ?_⟩
  rintro ⟨g, cap, cur, rfl, h1, h2, h3⟩
  exact ⟨g, cap, cur, rfl, h1, (hb.block g (hl g rfl)).trans h2, h3⟩
theorem pair {w : World} {n0 n1 : Nat} {C0 C1 : Nat → Ms} {R S : Nat → MR} (h0 : ∀ i, i < n0 → Ct.Good w 0 (C0 i) (R i)) (h1 : ∀ i, i < n1 → Ct.Good w 1 (C1 i) (R (n0 + i))) (k0 : ∀ i, i < n0 → Ct.Good w 0 (C0 i) (S i)) (k1 : ∀ i, i < n1 → Ct.Good w 1 (C1 i) (S (n0 + i)))
    (m0 : ∀ i, i < n0 → (C0 i).nn ≤ 1048576) (m1 : ∀ i, i < n1 → (C1 i).nn ≤ 1048576) (k : Nat) (hk : k < n0 + n1) : ∃ kd m, Ct.Good w kd m (R k) ∧ Ct.Good w kd m (S k) ∧ m.nn ≤ 1048576 := by
  rcases Nat.lt_or_ge k n0 with h | h
  · exact ⟨0, C0 k, h0 k h, k0 k h, m0 k h⟩
  · obtain ⟨i, rfl⟩ : ∃ i, k = n0 + i := ⟨k - n0, by omega⟩
    exact ⟨1, C1 i, h1 i (by omega), k1 i (by omega), m1 i (by omega)⟩
end Go.Proofs.Ytmjfdhgfpgeboad.Lw
