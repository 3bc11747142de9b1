/-
  The row's closed facts of FnRequireOrImportMetaForSourceIsLocal, each a declaration of its own. No condition.
-/
import Derived.Test.YtnchgmomfhollaaDoorRows
import Derived.JoinedCond
import Derived.WalkKit
namespace Go.Proofs.YtnchgmomfhollaaDoor.Jf
set_option maxHeartbeats 40000000 in
theorem jf : joinedFacts Tryd.pinned.checked.prog 3 Tryd.f3 (OpenSpec.ofChange Rows.fnRequireOrImportMetaForSourceIsLocalSpec).bare Rows.fnRequireOrImportMetaForSourceIsLocalRow = true := by
  unfold joinedFacts
  simp only [Bool.and_eq_true]
  repeat' (refine And.intro ?_ ?_)
  all_goals (as_aux_lemma => kernel_rfl)
end Go.Proofs.YtnchgmomfhollaaDoor.Jf
