/-
  DERIVED. GIVEN WITH THE SEED: THE CARDS: each row of YtmblkpjnafgplaaGreatDoorRows.lean that lists a variable, with what it lists TIED to the program's text (the seventh form; the later family's looks); each row that meets fmt, with fmt's text TOLD by the authors' own Lean function (tested against real Go, not proved from fmt's source: count such statements apart). THE CARD IS WHAT COUNTS. Prove the row's statement (the work); the ties are given (YtmblkpjnafgplaaGreatDoorTie.lean); close each card by the builder's one call (the guide's Derived/Test/ToyasCard.lean, 'card_holds'). Laid BY PROGRAM, IN A SANDBOX (cutbox-door.mjs). By AI agents, Wed Nov 11 2026. No macro, syntax, notation, axiom, sorry.
-/
import Derived.Test.YtmblkpjnafgplaaGreatDoorRows
import GoSem.ClaimSeven
namespace Go.Proofs.YtmblkpjnafgplaaGreatDoor
namespace Rows

/-- THE TIED CARD OF 'laws.FnStoreFirsts'. -/
def fnStoreFirstsCard : Claim7 := { stood := { row := fnStoreFirstsRow, standIns := [], harness := (true, "8b28ac20712aae432ffadf49d2d1dd62fb26177ecf7317e1d9d1d8fb3a8a8a53"), looks := true }, kinds := [], alts := [], laidByText := true, laidKinds := [.data, .sentinel, .sentinel, .sentinel, .sentinel, .sentinel, .sentinel, .sentinel, .sentinel, .sentinel, .sentinel, .sentinel, .sentinel], laidTests := true, laidLooks := .later }
def FnStoreFirstsCardSaid : Prop := Claim7.holds Tryz.pinned (.plain (OpenSpec.ofChange fnStoreFirstsSpec)) fnStoreFirstsCard

/-- THE TIED CARD OF 'laws.FnStoreRollingEach'. -/
def fnStoreRollingEachCard : Claim7 := { stood := { row := fnStoreRollingEachRow, standIns := [], harness := (true, "8b28ac20712aae432ffadf49d2d1dd62fb26177ecf7317e1d9d1d8fb3a8a8a53"), looks := true }, kinds := [], alts := [], laidByText := true, laidKinds := [.data, .sentinel, .sentinel, .sentinel, .sentinel, .sentinel, .sentinel, .sentinel, .sentinel, .sentinel, .sentinel, .sentinel, .sentinel], laidTests := true, laidLooks := .later }
def FnStoreRollingEachCardSaid : Prop := Claim7.holds Tryz.pinned (.plain (OpenSpec.ofChange fnStoreRollingEachSpec)) fnStoreRollingEachCard

/-- THE SECOND FORM's CARD OF 'laws.FnStoreFirsts'. -/
def fnStoreFirstsUptoCard : Claim7 := { stood := { row := fnStoreFirstsUptoRow, standIns := [], harness := (true, "8b28ac20712aae432ffadf49d2d1dd62fb26177ecf7317e1d9d1d8fb3a8a8a53"), looks := true }, kinds := [], alts := [], laidByText := true, laidKinds := [.data, .sentinel, .sentinel, .sentinel, .sentinel, .sentinel, .sentinel, .sentinel, .sentinel, .sentinel, .sentinel, .sentinel, .sentinel], laidTests := true, laidLooks := .later }
def FnStoreFirstsUptoCardSaid : Prop := Claim7.holds Tryz.pinned (.plain (OpenSpec.upto fnStoreFirstsSpec)) fnStoreFirstsUptoCard

/-- THE SECOND FORM's CARD OF 'laws.FnStoreRollingEach'. -/
def fnStoreRollingEachUptoCard : Claim7 := { stood := { row := fnStoreRollingEachUptoRow, standIns := [], harness := (true, "8b28ac20712aae432ffadf49d2d1dd62fb26177ecf7317e1d9d1d8fb3a8a8a53"), looks := true }, kinds := [], alts := [], laidByText := true, laidKinds := [.data, .sentinel, .sentinel, .sentinel, .sentinel, .sentinel, .sentinel, .sentinel, .sentinel, .sentinel, .sentinel, .sentinel, .sentinel], laidTests := true, laidLooks := .later }
def FnStoreRollingEachUptoCardSaid : Prop := Claim7.holds Tryz.pinned (.plain (OpenSpec.upto fnStoreRollingEachSpec)) fnStoreRollingEachUptoCard
end Rows
end Go.Proofs.YtmblkpjnafgplaaGreatDoor
