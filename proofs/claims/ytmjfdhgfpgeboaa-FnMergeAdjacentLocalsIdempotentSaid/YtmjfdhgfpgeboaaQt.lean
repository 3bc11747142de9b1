/-
  Proved: the steps of a walk through a region that draws its order and only reads, behind a structure, so that no tactic opens it: an operation that runs, one that is passed over, the end; there is no further condition.
-/
import Derived.Deep.QuietTactic
import Derived.Handy
namespace Go.Proofs.Ytmjfdhgfpgeboaa.Qts
variable {P : Program} {ops : Array Oper} {C : World → Prop}
structure Qt (P : Program) (ops : Array Oper) (C : World → Prop) (Q : Act → Prop) (l : List Oper) (a : Act) : Prop where
  out : wpQuiet P ops C Q l a
theorem Qt.nil {Q : Act → Prop} {a : Act} (h : Q a) : Qt P ops C Q [] a := ⟨h⟩
theorem Qt.step {Q : Act → Prop} {a : Act} {o : Oper} {rest : List Oper}
    (h : ∀ K : Act → Prop, (∀ a, Qt P ops C Q rest a → K a) → if Region.wanted o (yielded ops a.tmps) then o.quiet P a C K else K (a.put o.dst undef)) : Qt P ops C Q (o :: rest) a :=
  ⟨wpQuiet_step fun K hK => h K fun a ha => hK a ha.out⟩
end Go.Proofs.Ytmjfdhgfpgeboaa.Qts
