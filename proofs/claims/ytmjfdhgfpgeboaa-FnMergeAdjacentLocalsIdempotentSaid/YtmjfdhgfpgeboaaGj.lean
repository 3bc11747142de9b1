/-
  Contracts: the merge as the law calls it; the copy of a row of statements. Conditions: sizes alone.
-/
import Derived.Test.YtmjfdhgfpgeboaaGf
import Derived.Test.YtmjfdhgfpgeboaaGi
import Derived.Laws.CopyRow
namespace Go.Proofs.Ytmjfdhgfpgeboaa.Gj
open Go.RowKit Go.PlainAid Mem Sz Ga Gm Gb Gd Ge Gf Gi
set_option linter.unusedVariables false
set_option linter.unusedSimpArgs false

theorem pick {n : Nat} {P : Nat → Value → Cl → Int → Prop} (h : ∀ i, i < n → ∃ v C l, P i v C l) : ∃ (V : Nat → Value) (C : Nat → Cl) (l : Nat → Int), ∀ i, i < n → P i (V i) (C i) (l i) := by
  have h' : ∀ i, ∃ t : Value × Cl × Int, i < n → P i t.1 t.2.1 t.2.2 := fun i => by
    by_cases hi : i < n
    · obtain ⟨v, C, l, hp⟩ := h i hi
      exact ⟨(v, C, l), fun _ => hp⟩
    · exact ⟨(.nilIface, none, 0), fun x => absurd x hi⟩
  obtain ⟨f, hf⟩ := Classical.axiomOfChoice h'
  exact ⟨fun i => (f i).1, fun i => (f i).2.1, fun i => (f i).2.2, hf⟩

set_option maxRecDepth 100000 in
theorem merge9 (m N c rb : Nat) (hm : m + 1 ≤ 65536) (hN : N ≤ 16711680) (hc : m ≤ c) (hcm : c + 1 ≤ maxLen) (cs0 : Array Value) (V0 : Nat → Value) (C0 : Nat → Cl) (l0 : Nat → Int) (w : World)
    (h0 : Own w rb 37 cs0) (hs : (m + 1) * 2 ≤ cs0.size) (hr : ∀ k, k < m + 1 → cs0[k * 2]? = some (V0 k) ∧ cs0[k * 2 + 1]? = some (.int .i32 (l0 k)))
    (he : ∀ k, k < m + 1 → Ent w (rb + 1) w.heap.size (rb + 1) w.heap.size N (V0 k) (C0 k)) :
    Calls Try.prog 9 #[.slice (some ⟨rb, 0, none⟩) (m + 1) (c + 1)] w (Merged w rb (m + 1) N (c + 1) V0 C0 l0) := by
  have HM := Lib.hid (merge13 m N c rb hm hN hc hcm cs0 V0 C0 l0 w h0 hs hr he)
  clear h0 hs hr he
  go_enter Try.func9, Try.ntmps9
  go_wp2_with fail
  refine HM.out.mono ?_
  rintro e w' ⟨e', did, cs, V, C, l, B1, rfl, h⟩
  have H := Lib.hid h
  clear h
  go_wp2_with fail
  go_ret
  exact ⟨e', did, cs, V, C, l, B1, rfl, H.out⟩

set_option maxRecDepth 100000 in
theorem merge13n (c rb : Nat) (w : World) : Calls Try.prog 13 #[.slice (some ⟨rb, 0, none⟩) 0 c] w fun e w' => e = .returned (.slice (some ⟨rb, 0, none⟩) 0 c) ∧ w = w' := by
  go_enter Try.func13, Try.ntmps13
  go_wp2
  go_ret
  exact ⟨rfl, rfl⟩
set_option maxRecDepth 100000 in
theorem merge9n (c rb : Nat) (w : World) : Calls Try.prog 9 #[.slice (some ⟨rb, 0, none⟩) 0 c] w fun e w' => e = .returned (.slice (some ⟨rb, 0, none⟩) 0 c) ∧ w = w' := by
  have HM := Lib.hid (merge13n c rb w)
  go_enter Try.func9, Try.ntmps9
  go_wp2_with fail
  refine HM.out.mono ?_
  rintro e w' ⟨rfl, rfl⟩
  go_wp2_with fail
  go_ret
  exact ⟨rfl, rfl⟩

theorem run_copy2 (w : World) (ty : TypeId) (g rb n c c' : Nat) (cur : Array Value) (cs : List Value) (hg : Own w g 37 cur) (hcur : cur.size = n * 2) (hl : cs.length = n * 2)
    (hsrc : ∀ j v, cs[j]? = some v → w.cell? ((⟨rb, 0, none⟩ : Addr).add j) = some v) (h1 : ∀ v ∈ cs, v.oneCell' = true) :
    (Builtin.copy_ #[27, 27] ty #[.slice (some ⟨g, 0, none⟩) n c, .slice (some ⟨rb, 0, none⟩) n c']).run Try.prog w = .ok (goInt n) (w.setRow g cs.toArray) := by
  obtain ⟨i, hi, hz0, hz1, hz2⟩ := info_parts info37
  have hf := run_firstCells_some (P := Try.prog) w i.size n ⟨rb, 0, none⟩ n c' cs (by rw [hz1]; exact hl) hsrc
  have hst := run_storeCells_at Try.prog g 0 37 cs 0 cur w hg (by omega) h1
  have hd : cur.toList.drop (0 + 0 + cs.length) = [] := List.drop_eq_nil_of_le (by rw [Array.length_toList]; omega)
  rw [hd] at hst
  simp only [Nat.add_zero, List.take_zero, List.nil_append, List.append_nil] at hst
  simp [Builtin.copy_, run_underlying Try.underlying27, sizeOf, typeInfo, hi, Builtin.lenOf, hf, hst, Result.andThen]

/-- copy, by its run's equation, at the list of a plain region's operations. -/
theorem wpList_copy2 {w w1 : World} {ops : Array Oper} {rest : List Oper} {o : Oper} {a : Act} {Q : Exit → Act → World → Prop} (hgd : o.guard = none) (d s : Operand)
    (ho : o.op = .call { callee := .builtin .copy, args := #[d, s], argTypes := #[27, 27] }) (vd vs v : Value) (hd : a.eval d = vd) (hs : a.eval s = vs)
    (hr : ∀ ty, (Builtin.copy_ #[27, 27] ty #[vd, vs]).run Try.prog w = .ok v w1) (h : wpList Try.prog ops Q rest (a.put o.dst v) w1) : wpList Try.prog ops Q (o :: rest) a w := by
  refine wpList_plain hgd fun K hK => ?_
  unfold Oper.wp
  simp [execOp, ho, resolve, invoke, builtin, hd, hs, hr, Result.andThen]
  exact hK _ _ h
end Go.Proofs.Ytmjfdhgfpgeboaa.Gj
