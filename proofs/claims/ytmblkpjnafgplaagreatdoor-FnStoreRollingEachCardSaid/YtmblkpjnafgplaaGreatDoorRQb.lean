/- zzFits2, speaks: they end. -/
import Derived.Test.YtmblkpjnafgplaaGreatDoorR00
import Derived.Test.YtmblkpjnafgplaaGreatDoorProg
import Derived.KernelRfl
import Derived.BigQuiet
import Derived.Lib.Hide
import Derived.LoopTactic
namespace Go.Proofs.YtmblkpjnafgplaaGreatDoor
open Go Go.RowKit
set_option maxRecDepth 100000
set_option linter.unusedVariables false
set_option linter.unusedSimpArgs false

/-- it hands a truth value back, whichever -/
def SomeBool (w : World) (e : Ending) (w' : World) : Prop := ∃ b, e = .returned (.bool b) ∧ w' = w

set_option maxHeartbeats 2000000 in
theorem zzFits2_any (A : Option Addr) (n c : Nat) (ss : List Bs) (w : World) (hA : RowAt w 1 A n (ss.map str)) (hn : n ≤ 9223372036854775807) : Calls Tryz.prog 20 #[.slice A n c] w (SomeBool w) := by
  have HA := Lib.hid hA
  have hl : ss.length = n := by simpa using hA.1
  clear hA
  have HL := Lib.hid hl
  clear hl
  by_cases hb : n ≤ 2147483647
  · go_enter Tryz.func20, Tryz.ntmps20
    go_wp2
    go_loop [10] (fun i => ∃ j : Nat, i = .int .i64 (j : Int) ∧ j ≤ n) (fun i => n - (intOf i).toNat)
    case atStart => exact ⟨0, rfl, Nat.zero_le _⟩
    case round =>
      obtain ⟨j, rfl, hj⟩ := hrel
      by_cases hlt : j < n
      · obtain ⟨⟨a, oa, sa⟩, u, rfl, hsa, hu, hca⟩ := HA.out.at_ hlt
        simp only at hsa hca
        subst hsa
        obtain ⟨y, rfl⟩ : ∃ y, str y = u := by
          obtain ⟨y, hy, e⟩ := List.mem_map.1 (List.mem_of_getElem? hu)
          exact ⟨y, e⟩
        clear hu
        go_wp2
        · go_ret
          exact ⟨_, rfl, rfl⟩
        · go_round
          case rel => exact ⟨j + 1, by go_num, by omega⟩
          case measure => simp [intOf]; omega
      · go_wp2
        go_ret
        exact ⟨_, rfl, rfl⟩
  · go_enter Tryz.func20, Tryz.ntmps20
    go_wp2
    go_ret
    exact ⟨_, rfl, rfl⟩

set_option maxHeartbeats 4000000 in
theorem speaks_any (A : Option Addr) (c : Nat) (xs : Bs) (w : World) (hA : RowAt w 1 A xs.length (xs.map byteV)) (hl : xs.length ≤ 1000) : Calls Tryz.prog 21 #[.slice A xs.length c] w (SomeBool w) := by
  have HA := Lib.hid hA
  clear hA
  go_enter Tryz.func21, Tryz.ntmps21
  go_wp2
  go_loop [3] (fun i => ∃ j : Nat, i = .int .i64 (j : Int) ∧ j ≤ xs.length) (fun i => xs.length - (intOf i).toNat)
  case atStart => exact ⟨0, rfl, Nat.zero_le _⟩
  case round =>
    obtain ⟨j, rfl, hj⟩ := hrel
    by_cases hlt : j + 5 ≤ xs.length
    · obtain ⟨ad, e, hs, hc⟩ := HA.out.2 (by omega)
      obtain ⟨a, o, sp⟩ := ad
      simp only at hs hc
      subst hs; subst e
      have get : ∀ k, k < 5 → ∃ y : UInt8, w.cell? ⟨a, o + (j + k), none⟩ = some (byteV y) := fun k hk => by
        have hjk : j + k < xs.length := by omega
        exact ⟨xs[j + k], hc (j + k) _ (by simp [hjk])⟩
      obtain ⟨y0, c0⟩ := get 0 (by omega)
      rw [Nat.add_zero] at c0
      obtain ⟨y1, c1⟩ := get 1 (by omega)
      obtain ⟨y2, c2⟩ := get 2 (by omega)
      obtain ⟨y3, c3⟩ := get 3 (by omega)
      obtain ⟨y4, c4⟩ := get 4 (by omega)
      clear hc get
      have h0 : (0 : Int) ≤ (j : Int) := Int.natCast_nonneg _
      have h1 : (j : Int) + 4 < (xs.length : Int) := by omega
      go_wp2
      all_goals first
        | (go_ret; exact ⟨_, rfl, rfl⟩)
        | exact ⟨⟨j + 1, by go_num, by omega⟩, by simp [intOf]; omega⟩
    · go_wp2
      go_ret
      exact ⟨_, rfl, rfl⟩

end Go.Proofs.YtmblkpjnafgplaaGreatDoor
