/-
  Proved: a name that is one arm of the table has the numbers of that arm and no others. Conditions: those that each theorem names as its hypotheses,
  and no others.
-/
import Derived.Test.YtmjfdhgfpgeboadIdp
namespace Go.Proofs.Ytmjfdhgfpgeboad.Idp
open Go.RowKit Go.Maps Go.WideMaps
set_option linter.unusedVariables false
set_option linter.unusedSimpArgs false
theorem one_key (k c : Int) (d : DataW Value) : has ((DataW.map [] : DataW Value).put (.int .u8 k) d) (.int .u8 c) = true ↔ k ≤ c ∧ c ≤ k := by
  by_cases h : c = k
  · subst h
    rw [has_put_same isMap_empty (show WideAt.IsKeyLit (.int .u8 c) from trivial)]
    simp
  · rw [has_put_other (fun e => h (by injection e))]
    constructor
    · intro h2; cases h2
    · rintro ⟨h1, h2⟩; omega
end Go.Proofs.Ytmjfdhgfpgeboad.Idp
