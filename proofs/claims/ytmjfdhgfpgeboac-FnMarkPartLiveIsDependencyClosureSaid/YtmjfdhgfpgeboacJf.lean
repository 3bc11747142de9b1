/-
  The row's closed facts of FnMarkPartLiveIsDependencyClosure, each a declaration of its own. No condition.
-/
import Derived.Test.YtmjfdhgfpgeboacRows
import Derived.JoinedCond
import Derived.WalkKit
namespace Go.Proofs.Ytmjfdhgfpgeboac.Jf
set_option maxHeartbeats 40000000 in
theorem jf : joinedFacts Try.pinned.checked.prog 3 Try.f3 Rows.fnMarkPartLiveIsDependencyClosureSpec Rows.fnMarkPartLiveIsDependencyClosureRow = true := by
  unfold joinedFacts
  simp only [Bool.and_eq_true]
  repeat' (refine And.intro ?_ ?_)
  all_goals (as_aux_lemma => kernel_rfl)
end Go.Proofs.Ytmjfdhgfpgeboac.Jf
