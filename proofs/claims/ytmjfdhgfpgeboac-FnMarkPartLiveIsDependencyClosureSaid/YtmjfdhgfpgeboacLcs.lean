/-
  Places, notes and messages of the laws of pkg/api as rows of cells. No condition.
-/
import Derived.Test.YtmjfdhgfpgeboacOrw
import Derived.ChangeArms
namespace Go.Proofs.Ytmjfdhgfpgeboac.Lcs
open Go.RowKit Go.ChangeShapes Go.WideShapes Go.Deep Mem Orw
set_option linter.unusedVariables false
variable {H : Type} {enc : TypeId × Value → H} {P : Program} {w : World}
/-- a place -/
structure Lc where
  pr : Bool
  fl : ByteArray
  ns : ByteArray
  ln : Int
  co : Int
  le : Int
  lt : ByteArray
  sg : ByteArray
def Lc.cells (l : Lc) : List Value := [.bool l.pr, .string l.fl, .string l.ns, .int .i64 l.ln, .int .i64 l.co, .int .i64 l.le, .string l.lt, .string l.sg]
structure Lc.wf (l : Lc) : Prop where
  fl : l.fl.size ≤ maxLen
  ns : l.ns.size ≤ maxLen
  lt : l.lt.size ≤ maxLen
  sg : l.sg.size ≤ maxLen
  ln : (Lit.int .i64 l.ln).wf = true
  co : (Lit.int .i64 l.co).wf = true
  le : (Lit.int .i64 l.le).wf = true
/-- a note -/
structure Nt where
  tx : ByteArray
  lc : Lc
def Nt.cells (n : Nt) : List Value := .string n.tx :: n.lc.cells
/-- What a struct's trod gives of each field. -/
theorem field_of {t : TypeId} {fs : Array Field} {fu : Nat} {cs : List Value} {z : DataW H × List MemPlace} {L : List (TypeId × Nat)} (ht : P.underlying t = some (.struct fs)) (hf : fs.toList.map (fun f => (f.type, f.offset)) = L)
    (h : DataW.trod enc P w 0 (fun _ => true) true fu t cs = some z) : ∃ n, ∀ (i : Nat) (τ : TypeId) (o : Nat), L[i]? = some (τ, o) → ∃ y, DataW.trod enc P w 0 (fun _ => true) true n τ ((cs.drop o).take (P.cellsOf τ)) = some y := by
  obtain ⟨xs, n, _, _, _, hx, hp⟩ := DataW.trod_struct ht h
  refine ⟨n, fun i τ o hi => ?_⟩
  subst hf
  rw [List.getElem?_map] at hi
  cases hfi : fs[i]? with
  | none => rw [← Array.getElem?_toList] at hfi; rw [hfi] at hi; cases hi
  | some f =>
    have h2 := hp i f hfi
    rw [← Array.getElem?_toList] at hfi
    rw [hfi] at hi
    simp only [Option.map_some, Option.some.injEq, Prod.mk.injEq] at hi
    obtain ⟨rfl, rfl⟩ := hi
    have hlt : i < xs.length := by
      rw [hx, ← Array.length_toList]
      exact (List.getElem?_eq_some_iff.1 hfi).1
    rw [List.getElem?_eq_getElem hlt] at h2
    exact ⟨_, h2⟩
theorem one_at {cs : List Value} {o : Nat} {v : Value} (h : (cs.drop o).take 1 = [v]) : cs[o]? = some v := by
  have := congrArg (·[0]?) h
  simpa [List.getElem?_take, List.getElem?_drop] using this
theorem str_at {τ : TypeId} {n o : Nat} {cs : List Value} {y : DataW H × List MemPlace} (hs : P.underlying τ = some .string) (hc : P.cellsOf τ = 1) (h : DataW.trod enc P w 0 (fun _ => true) true n τ ((cs.drop o).take (P.cellsOf τ)) = some y) : ∃ s : ByteArray, cs[o]? = some (.string s) ∧ s.size ≤ maxLen := by
  rw [hc] at h
  obtain ⟨s, h1, _, h2⟩ := DataW.trod_string hs h
  exact ⟨s, one_at h1, h2⟩
theorem bool_at {τ : TypeId} {n o : Nat} {cs : List Value} {y : DataW H × List MemPlace} (hs : P.underlying τ = some .bool) (hc : P.cellsOf τ = 1) (h : DataW.trod enc P w 0 (fun _ => true) true n τ ((cs.drop o).take (P.cellsOf τ)) = some y) : ∃ s : Bool, cs[o]? = some (.bool s) := by
  rw [hc] at h
  obtain ⟨s, h1, _⟩ := DataW.trod_bool hs h
  exact ⟨s, one_at h1⟩
theorem int_at {τ : TypeId} {k : IntKind} {n o : Nat} {cs : List Value} {y : DataW H × List MemPlace} (hs : P.underlying τ = some (.int k)) (hc : P.cellsOf τ = 1) (h : DataW.trod enc P w 0 (fun _ => true) true n τ ((cs.drop o).take (P.cellsOf τ)) = some y) : ∃ s : Int, cs[o]? = some (.int k s) ∧ (Lit.int k s).wf = true := by
  rw [hc] at h
  obtain ⟨s, h1, _, h2⟩ := DataW.trod_int hs h
  exact ⟨s, one_at h1, h2⟩
theorem lc_of {t b s i : TypeId} {fs : Array Field} {fu : Nat} {cs : List Value} {z : DataW H × List MemPlace} (ht : P.underlying t = some (.struct fs)) (hb : P.underlying b = some .bool) (hs : P.underlying s = some .string) (hi : P.underlying i = some (.int .i64))
    (cb : P.cellsOf b = 1) (cs1 : P.cellsOf s = 1) (ci : P.cellsOf i = 1) (hf : fs.toList.map (fun f => (f.type, f.offset)) = [(b, 0), (s, 1), (s, 2), (i, 3), (i, 4), (i, 5), (s, 6), (s, 7)])
    (h : DataW.trod enc P w 0 (fun _ => true) true fu t cs = some z) (hl : cs.length = 8) : ∃ l : Lc, cs = l.cells ∧ l.wf := by
  obtain ⟨n, hn⟩ := field_of ht hf h
  obtain ⟨_, h0⟩ := hn 0 _ _ rfl
  obtain ⟨_, h1⟩ := hn 1 _ _ rfl
  obtain ⟨_, h2⟩ := hn 2 _ _ rfl
  obtain ⟨_, h3⟩ := hn 3 _ _ rfl
  obtain ⟨_, h4⟩ := hn 4 _ _ rfl
  obtain ⟨_, h5⟩ := hn 5 _ _ rfl
  obtain ⟨_, h6⟩ := hn 6 _ _ rfl
  obtain ⟨_, h7⟩ := hn 7 _ _ rfl
  obtain ⟨v0, e0⟩ := bool_at hb cb h0
  obtain ⟨v1, e1, w1⟩ := str_at hs cs1 h1
  obtain ⟨v2, e2, w2⟩ := str_at hs cs1 h2
  obtain ⟨v3, e3, w3⟩ := int_at hi ci h3
  obtain ⟨v4, e4, w4⟩ := int_at hi ci h4
  obtain ⟨v5, e5, w5⟩ := int_at hi ci h5
  obtain ⟨v6, e6, w6⟩ := str_at hs cs1 h6
  obtain ⟨v7, e7, w7⟩ := str_at hs cs1 h7
  refine ⟨⟨v0, v1, v2, v3, v4, v5, v6, v7⟩, ?_, ⟨w1, w2, w6, w7, w3, w4, w5⟩⟩
  match cs, hl with
  | [a0, a1, a2, a3, a4, a5, a6, a7], _ => simp_all [Lc.cells]
theorem nt_of {t s tl b i : TypeId} {fs fl : Array Field} {fu : Nat} {cs : List Value} {z : DataW H × List MemPlace} (ht : P.underlying t = some (.struct fs)) (htl : P.underlying tl = some (.struct fl)) (hb : P.underlying b = some .bool) (hs : P.underlying s = some .string) (hi : P.underlying i = some (.int .i64))
    (cb : P.cellsOf b = 1) (cs1 : P.cellsOf s = 1) (ci : P.cellsOf i = 1) (cl : P.cellsOf tl = 8) (hf : fs.toList.map (fun f => (f.type, f.offset)) = [(s, 0), (tl, 1)]) (hfl : fl.toList.map (fun f => (f.type, f.offset)) = [(b, 0), (s, 1), (s, 2), (i, 3), (i, 4), (i, 5), (s, 6), (s, 7)])
    (h : DataW.trod enc P w 0 (fun _ => true) true fu t cs = some z) (hl : cs.length = 9) : ∃ l : Nt, cs = l.cells ∧ l.tx.size ≤ maxLen ∧ l.lc.wf := by
  obtain ⟨n, hn⟩ := field_of ht hf h
  obtain ⟨_, h0⟩ := hn 0 _ _ rfl
  obtain ⟨_, h1⟩ := hn 1 _ _ rfl
  obtain ⟨v0, e0, w0⟩ := str_at hs cs1 h0
  rw [cl] at h1
  obtain ⟨l, hl1, hw⟩ := lc_of htl hb hs hi cb cs1 ci hfl h1 (by rw [List.length_take, List.length_drop, hl]; rfl)
  refine ⟨⟨v0, l⟩, ?_, w0, hw⟩
  match cs, hl with
  | [a0, a1, a2, a3, a4, a5, a6, a7, a8], _ =>
    simp only [List.drop_succ_cons, List.drop_zero, List.take_succ_cons, List.take_zero] at hl1
    simp only [List.getElem?_cons_zero, Option.some.injEq] at e0
    rw [e0]
    show _ = Value.string v0 :: l.cells
    rw [← hl1]
end Go.Proofs.Ytmjfdhgfpgeboac.Lcs
