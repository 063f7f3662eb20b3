/- FnStoreRollingEach: the row's closed facts. -/
import Derived.Test.YtmblkpjnafgplaaGreatDoorRows
import Derived.JoinedOf
namespace Go.Proofs.YtmblkpjnafgplaaGreatDoor
open Go
set_option maxRecDepth 100000
set_option linter.unusedVariables false

set_option maxHeartbeats 40000000 in
theorem rolling_closed : joinedFacts Tryz.prog 4 Tryz.f4 Rows.fnStoreRollingEachSpec Rows.fnStoreRollingEachRow = true := by
  unfold joinedFacts
  simp only [Bool.and_eq_true]
  repeat' apply And.intro
  all_goals as_aux_lemma => kernel_rfl

end Go.Proofs.YtmblkpjnafgplaaGreatDoor
