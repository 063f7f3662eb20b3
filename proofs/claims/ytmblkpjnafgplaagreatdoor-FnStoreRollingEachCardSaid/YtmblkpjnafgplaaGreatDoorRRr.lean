/- What the listed variables give; the row of FnStoreRollingEach; the card. -/
import Derived.Test.YtmblkpjnafgplaaGreatDoorRows
import Derived.Test.YtmblkpjnafgplaaGreatDoorTie
import Derived.Test.YtmblkpjnafgplaaGreatDoorCards
import Derived.Test.YtmblkpjnafgplaaGreatDoorRRq
import Derived.Test.YtmblkpjnafgplaaGreatDoorRQo
import Derived.Lib.LaidTab
import Derived.ProofKit
import Derived.LaidMore
import Derived.Stop.LaidErr
import Derived.Stop.Joined
import Derived.SevenTiedAt
namespace Go.Proofs.YtmblkpjnafgplaaGreatDoor
open Go Go.ChangeShapes Go.WideShapes Go.ChangeAt Go.RowKit
set_option maxRecDepth 100000
set_option linter.unusedVariables false

theorem Tryz.own : ownKnob Tryz.prog.godebug = none := by kernel_rfl
theorem Tryz.laidOut : laidOutB Tryz.prog = true := by kernel_rfl
theorem Tryz.star : "*" ++ "errors.errorString" = "*errors.errorString" := by decide
theorem Tryz.row210 (u : TypeId) (h : Tryz.prog.typeName? 3 u = some "*errors.errorString") : u = 210 :=
  typeName_ptr_named (nm := "errors.errorString") (by rw [Tryz.star]; kernel_rfl) (by kernel_rfl) (by decide) u (by rw [Tryz.star]; exact h)

abbrev laidL : List (String × DataW Unit) := Rows.fnStoreRollingEachRow.laid

/-- the sentinels' cells -/
theorem errs_of_laid {W : World} (h : laidMetH Tryz.prog laidL W) : Errs W := by
  rw [MakeChecks.laidMetH_plain _ _ _ (by kernel_rfl)] at h
  have get : ∀ {nm : String} {text : List UInt8} {r : List (String × DataW Unit)} {g : Nat}, laidMet Tryz.prog ((nm, .iface "*errors.errorString" (.ptr (.agg [.lit (.string text)]))) :: r) W → Tryz.prog.globalNamed nm = some g → (Tryz.prog.globals[g]?).map (·.type) = some 52 → ∃ t v, W.cell? ⟨g, 0, none⟩ = some (.iface t v) := by
    intro nm text r g hl hg ht
    obtain ⟨a, s, hv, _⟩ := laid_sentinel hl hg ht Tryz.underlying52 Tryz.row210 Tryz.underlying210 Tryz.underlying212 rfl rfl Tryz.underlying9 (by kernel_rfl) (by kernel_rfl)
    exact ⟨210, .pointer (some a), by simpa using World.var?_cell hg hv 0⟩
  have htab : Lib.TabIs Tryz.prog W "math/bits.deBruijn64tab" .u8 (Lib.deBruijn64tab.map fun (n : Nat) => (n : Int)) :=
    Lib.tabIs_of_head (g := 13) (t := 334) (e := 5) (n := 64) (by kernel_rfl) (by kernel_rfl) Tryz.underlying334 Tryz.underlying5 (by kernel_rfl) (by kernel_rfl) h
  have h1 := h.tail
  have h2 := h1.tail
  have h3 := h2.tail
  have h4 := h3.tail
  have h5 := h4.tail
  have h6 := h5.tail
  have e3 := get h4 (g := 3) (by kernel_rfl) (by kernel_rfl)
  have e2 := get h5 (g := 2) (by kernel_rfl) (by kernel_rfl)
  have e5 := get h6 (g := 5) (by kernel_rfl) (by kernel_rfl)
  refine ⟨?_, e2, e3, e5, fun j hj => ?_⟩
  · obtain ⟨t, v, hc⟩ := e5
    exact World.block_lt_of_cell? W _ hc
  · have hget : ∀ j, j < 64 → (Lib.deBruijn64tab.map fun (n : Nat) => (n : Int)).getD j 0 = ((Lib.deBruijn64tab.getD j 0 : Nat) : Int) := by decide
    have hc := htab.cell (g := 13) (by kernel_rfl) j (by simpa [Lib.deBruijn64tab] using hj)
    rw [hget j hj] at hc
    exact hc

/-- a world in which the listed variables lie as the program lays them -/
theorem door_met (os : Os) (args : Array Value) : laidMetH Tryz.prog laidL ((World.doorLaid Tryz.prog 242 os).forCall (fun _ _ => 0) ⟨#[], args, []⟩).memory := by
  rw [MakeChecks.laidMetH_plain _ _ _ (by kernel_rfl)]
  exact laidMet_of_run' 8 (by kernel_rfl) (by kernel_rfl)

end Go.Proofs.YtmblkpjnafgplaaGreatDoor
