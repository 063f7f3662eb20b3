/- FnStoreFirsts: the row's closed facts. -/
import Derived.Test.YtmblkpjnafgplaaGreatDoorRows
import Derived.JoinedOf
namespace Go.Proofs.YtmblkpjnafgplaaGreatDoor
open Go
set_option maxRecDepth 100000
set_option linter.unusedVariables false

set_option maxHeartbeats 40000000 in
theorem firsts_closed : joinedFacts Tryz.prog 3 Tryz.f3 Rows.fnStoreFirstsSpec Rows.fnStoreFirstsRow = true := by
  unfold joinedFacts
  simp only [Bool.and_eq_true]
  repeat' apply And.intro
  all_goals as_aux_lemma => kernel_rfl

end Go.Proofs.YtmblkpjnafgplaaGreatDoor
