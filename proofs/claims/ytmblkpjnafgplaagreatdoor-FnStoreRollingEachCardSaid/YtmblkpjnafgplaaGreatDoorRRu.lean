/- FnStoreRollingEach answers true at every input: the card. No condition. -/
import Derived.Test.YtmblkpjnafgplaaGreatDoorRRt
namespace Go.Proofs.YtmblkpjnafgplaaGreatDoor
open Go Go.ChangeShapes Go.WideShapes Go.ChangeAt Go.RowKit
set_option maxRecDepth 100000
set_option linter.unusedVariables false

theorem fnStoreRollingEach_card : Rows.FnStoreRollingEachCardSaid :=
  Claim7.holds_tied_plain_at .later [] [.data, .sentinel, .sentinel, .sentinel, .sentinel, .sentinel, .sentinel, .sentinel, .sentinel, .sentinel, .sentinel, .sentinel, .sentinel] true (true, "8b28ac20712aae432ffadf49d2d1dd62fb26177ecf7317e1d9d1d8fb3a8a8a53") true
    fnStoreRollingEach_holds (fun _ h => by cases h) rolling_wf (fun _ h => by cases h) fnStoreRollingEach_row_tie rfl ⟨rfl, rfl⟩ seat_main rfl
    (fun f fn hf hfn => by
      obtain rfl : f = 4 := Option.some.inj (rolling_named.symm.trans hf) |>.symm
      obtain rfl : fn = Tryz.f4 := (Option.some.inj (Tryz.func4.symm.trans hfn)).symm
      exact ⟨seat_looks, fun j t ht => by
        rw [Tryz.params4] at ht
        have hm : t ∈ [22, 2] := by simpa using Array.mem_of_getElem? ht
        exact (show Tryz.prog.wantsStandIn t = false by simpa using List.all_eq_true.1 seat_wants t hm)⟩)
    rolling_goes
#print axioms fnStoreRollingEach_card
end Go.Proofs.YtmblkpjnafgplaaGreatDoor
