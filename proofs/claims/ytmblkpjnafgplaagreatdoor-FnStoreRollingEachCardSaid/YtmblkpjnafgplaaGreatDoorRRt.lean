/- FnStoreRollingEach answers true at every input: the row, and its card. No condition. -/
import Derived.Test.YtmblkpjnafgplaaGreatDoorRRs
import Derived.Test.YtmblkpjnafgplaaGreatDoorRRt0
namespace Go.Proofs.YtmblkpjnafgplaaGreatDoor
open Go Go.ChangeShapes Go.WideShapes Go.ChangeAt Go.RowKit
set_option maxRecDepth 100000
set_option linter.unusedVariables false

theorem fnStoreRollingEach_holds : Rows.FnStoreRollingEachSaid :=
  OpenClaim.holds_of_wide 4 Tryz.f4 rfl rfl rfl rfl rfl rfl rfl ⟨rfl, rfl, rfl, rfl, rfl⟩ rfl rfl rfl rfl rfl (by as_aux_lemma => kernel_rfl) Tryz.func4 rolling_closed
    (of_decide_eq_true (by kernel_rfl)) (by unfold Func.isWrapper; first | (rw [if_pos (by decide +kernel)]; kernel_rfl) | (rw [if_neg (by decide +kernel)]; exact ⟨rfl, rfl⟩))
    (fun os started H enc _ => rolling_lifted os started H enc)

theorem rolling_wf : Rows.fnStoreRollingEachRow.wfByText (OpenSpec.ofChange Rows.fnStoreRollingEachSpec) = true := by kernel_rfl
theorem seat_main : Tryz.pinned.checked.prog.mainIs = some (true, "8b28ac20712aae432ffadf49d2d1dd62fb26177ecf7317e1d9d1d8fb3a8a8a53".toList) := by kernel_rfl
theorem rolling_named : Tryz.prog.funcNamed "pub-streamkeep/laws.FnStoreRollingEach" = some 4 := by kernel_rfl
theorem seat_looks : true = Tryz.pinned.checked.prog.looks [] := by kernel_rfl
theorem seat_wants : ([22, 2].all fun u => !Tryz.prog.wantsStandIn u) = true := by kernel_rfl
theorem rolling_goes : false = Rows.fnStoreRollingEachRow.goesBy Tryz.pinned.checked.prog := by kernel_rfl

end Go.Proofs.YtmblkpjnafgplaaGreatDoor
