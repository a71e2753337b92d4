/- The closed facts of the row of FnConfigEarly. No conditions but those in each theorem's own binders. -/
import Derived.Test.YtnpkgmgedgcjmaaGreatDoorCards
import Derived.Test.YtnpkgmgedgcjmaaGreatDoorTie
import Derived.LaidMore
import Derived.Stop.Joined
import Derived.SevenTiedAt
namespace Go.Proofs.YtnpkgmgedgcjmaaGreatDoor
set_option linter.unusedVariables false
set_option linter.unusedSimpArgs false
set_option maxHeartbeats 40000000 in
theorem jf_early : joinedFacts Tryz.prog 14 Tryz.f14 Rows.fnConfigEarlySpec Rows.fnConfigEarlyRow = true := by
  simp only [joinedFacts, Bool.and_eq_true]
  repeat' apply And.intro
  all_goals (as_aux_lemma => kernel_rfl)
end Go.Proofs.YtnpkgmgedgcjmaaGreatDoor
