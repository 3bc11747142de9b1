/-
  An argument of type []ZMsg (12 cells a message, notes of 9 cells) opened to records. No condition.
-/
import Derived.Test.YtmjfdhgfpgeboadLcs
namespace Go.Proofs.Ytmjfdhgfpgeboad.Msr
open Go.RowKit Go.ChangeShapes Go.WideShapes Go.Deep Mem Orw Lcs
set_option linter.unusedVariables false
variable {H : Type} {enc : TypeId × Value → H} {P : Program} {w : World}
instance : Inhabited Lc := ⟨⟨false, ⟨#[]⟩, ⟨#[]⟩, 0, 0, 0, ⟨#[]⟩, ⟨#[]⟩⟩⟩
instance : Inhabited Nt := ⟨⟨⟨#[]⟩, default⟩⟩
/-- a message -/
structure Ms where
  id : ByteArray
  pl : ByteArray
  tx : ByteArray
  lc : Lc
  nA : Option Addr
  nn : Nat
  nc : Nat
  nt : Nat → Nt
instance : Inhabited Ms := ⟨⟨⟨#[]⟩, ⟨#[]⟩, ⟨#[]⟩, default, none, 0, 0, fun _ => default⟩⟩
def Ms.cells (m : Ms) : List Value := [.string m.id, .string m.pl, .string m.tx, .bool m.lc.pr, .string m.lc.fl, .string m.lc.ns, .int .i64 m.lc.ln, .int .i64 m.lc.co, .int .i64 m.lc.le, .string m.lc.lt, .string m.lc.sg, .slice m.nA m.nn m.nc]
/-- The notes of a message, as they lie. -/
structure Ms.wf (w : World) (m : Ms) : Prop where
  id : m.id.size ≤ maxLen
  pl : m.pl.size ≤ maxLen
  tx : m.tx.size ≤ maxLen
  lc : m.lc.wf
  le : m.nn ≤ m.nc
  cap : m.nc ≤ maxLen
  nil : m.nA = none → m.nn = 0 ∧ m.nc = 0
  rows : Rd w w.heap.size 9 m.nA m.nn (rowF 9 fun j => (m.nt j).cells)
  notes : ∀ j, j < m.nn → (m.nt j).tx.size ≤ maxLen ∧ (m.nt j).lc.wf
theorem rowF_congr {K n : Nat} {X Y : Nat → List Value} {A : Option Addr} {B : Nat} (hK : 0 < K) (h : Rd w B K A n (rowF K X)) (e : ∀ i, i < n → X i = Y i) : Rd w B K A n (rowF K Y) := fun hn => by
  obtain ⟨b, off, ea, hb, hc⟩ := h hn
  refine ⟨b, off, ea, hb, fun j hj => ?_⟩
  rw [hc j hj]
  unfold rowF
  rw [e (j / K) (by rw [Nat.div_lt_iff_lt_mul hK]; exact hj)]
/-- The numbers of the types. -/
structure Tys (P : Program) where
  b : TypeId
  s : TypeId
  i : TypeId
  l : TypeId
  n : TypeId
  ns : TypeId
  m : TypeId
  fl : Array Field
  fn : Array Field
  fm : Array Field
  hb : P.underlying b = some .bool
  hs : P.underlying s = some .string
  hi : P.underlying i = some (.int .i64)
  hl : P.underlying l = some (.struct fl)
  hn : P.underlying n = some (.struct fn)
  hns : P.underlying ns = some (.slice n)
  hm : P.underlying m = some (.struct fm)
  cb : P.cellsOf b = 1
  cs : P.cellsOf s = 1
  ci : P.cellsOf i = 1
  cl : P.cellsOf l = 8
  cn : P.cellsOf n = 9
  cns : P.cellsOf ns = 1
  cm : P.cellsOf m = 12
  kl : fl.toList.map (fun f => (f.type, f.offset)) = [(b, 0), (s, 1), (s, 2), (i, 3), (i, 4), (i, 5), (s, 6), (s, 7)]
  kn : fn.toList.map (fun f => (f.type, f.offset)) = [(s, 0), (l, 1)]
  km : fm.toList.map (fun f => (f.type, f.offset)) = [(s, 0), (s, 1), (s, 2), (l, 3), (ns, 11)]
theorem ms_of (T : Tys P) {fu : Nat} {cs : List Value} {z : DataW H × List MemPlace} (h : DataW.trod enc P w 0 (fun _ => true) true fu T.m cs = some z) (hl : cs.length = 12) : ∃ m : Ms, cs = m.cells ∧ m.wf w := by
  obtain ⟨n, hn⟩ := field_of T.hm T.km h
  obtain ⟨_, h0⟩ := hn 0 _ _ rfl
  obtain ⟨_, h1⟩ := hn 1 _ _ rfl
  obtain ⟨_, h2⟩ := hn 2 _ _ rfl
  obtain ⟨_, h3⟩ := hn 3 _ _ rfl
  obtain ⟨_, h4⟩ := hn 4 _ _ rfl
  obtain ⟨v0, e0, w0⟩ := str_at T.hs T.cs h0
  obtain ⟨v1, e1, w1⟩ := str_at T.hs T.cs h1
  obtain ⟨v2, e2, w2⟩ := str_at T.hs T.cs h2
  rw [T.cl] at h3
  rw [T.cns] at h4
  obtain ⟨l, hl3, hw⟩ := lc_of T.hl T.hb T.hs T.hi T.cb T.cs T.ci T.kl h3 (by rw [List.length_take, List.length_drop, hl]; rfl)
  match cs, hl with
  | [a0, a1, a2, a3, a4, a5, a6, a7, a8, a9, a10, a11], _ =>
    simp only [List.drop_succ_cons, List.drop_zero, List.take_succ_cons, List.take_zero] at hl3 h4
    simp only [List.getElem?_cons_zero, List.getElem?_cons_succ, Option.some.injEq] at e0 e1 e2
    obtain ⟨A, nn, nc, X, rfl, hle, hcap, hnil, hrd, hX⟩ := open_rowsK T.hns T.cn (by decide) (R := fun cs => ∃ l : Nt, cs = l.cells ∧ l.tx.size ≤ maxLen ∧ l.lc.wf)
      (fun fu cs z hz hl => nt_of T.hn T.hl T.hb T.hs T.hi T.cb T.cs T.ci T.cl T.kn T.kl hz hl) h4
    obtain ⟨N, hN⟩ := choose_lt (α := Nt) (n := nn) (p := fun j l => X j = l.cells ∧ l.tx.size ≤ maxLen ∧ l.lc.wf) (fun j hj => (hX j hj).2)
    refine ⟨⟨v0, v1, v2, l, A, nn, nc, N⟩, ?_, ⟨w0, w1, w2, hw, hle, hcap, hnil, rowF_congr (by decide) hrd (fun j hj => (hN j hj).1), fun j hj => (hN j hj).2⟩⟩
    simp only [Lc.cells, List.cons.injEq, and_true] at hl3
    simp only [Ms.cells, List.cons.injEq, and_true]
    exact ⟨e0, e1, e2, hl3.1, hl3.2.1, hl3.2.2.1, hl3.2.2.2.1, hl3.2.2.2.2.1, hl3.2.2.2.2.2.1, hl3.2.2.2.2.2.2.1, hl3.2.2.2.2.2.2.2⟩
theorem open_msgs (T : Tys P) {t : TypeId} {v : Value} {d : DataW H} {ps : List MemPlace} {b0 : Nat} (ht : P.underlying t = some (.slice T.m)) (hval : Value.okWide P w .any b0 t v) (h : DataW.Trod enc P w 0 (fun _ => true) true t v d ps) :
    ∃ (A : Option Addr) (n c : Nat) (M : Nat → Ms), v = .slice A n c ∧ n ≤ c ∧ c ≤ maxLen ∧ (A = none → n = 0 ∧ c = 0) ∧ Rd w w.heap.size 12 A n (rowF 12 fun i => (M i).cells) ∧ ∀ i, i < n → (M i).wf w := by
  obtain ⟨A, n, c, rfl⟩ : ∃ A n c, v = .slice A n c := by
    cases v <;> simp [Value.okWide, ht, Cell.okWide, Cell.ok] at hval ⊢
  obtain ⟨fuel, hf⟩ := h
  obtain ⟨A', n', c', X, e, hle, hcap, hnil, hrd, hX⟩ := open_rowsK ht T.cm (by decide) (R := fun cs => ∃ m : Ms, cs = m.cells ∧ m.wf w) (fun fu cs z hz hl => ms_of T hz hl) hf
  obtain ⟨M, hM⟩ := choose_lt (α := Ms) (n := n') (p := fun j m => X j = m.cells ∧ m.wf w) (fun j hj => (hX j hj).2)
  exact ⟨A', n', c', M, e, hle, hcap, hnil, rowF_congr (by decide) hrd (fun j hj => (hM j hj).1), fun j hj => (hM j hj).2⟩
end Go.Proofs.Ytmjfdhgfpgeboad.Msr
