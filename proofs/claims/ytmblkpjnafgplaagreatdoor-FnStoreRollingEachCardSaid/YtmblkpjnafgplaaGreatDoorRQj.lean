/- stores: what it tells of a script. -/
import Derived.Test.YtmblkpjnafgplaaGreatDoorRQi
namespace Go.Proofs.YtmblkpjnafgplaaGreatDoor
open Go Go.RowKit
set_option maxRecDepth 100000
set_option linter.unusedVariables false
set_option linter.unusedSimpArgs false

set_option maxHeartbeats 2000000 in
theorem stores_any (A : Option Addr) (ss : List StepV) (c : Nat) (w : World) (hA : RowAt w 16 A ss.length (ss.flatMap StepV.cells)) (hin : ∀ sv ∈ ss, StepIn w sv) (hs : ∀ sv ∈ ss, sv.subj.length ≤ 2147483647) (hn : ss.length ≤ 9223372036854775807) :
    Calls Tryz.prog 6 #[.slice A ss.length c] w (FitP (ss.length ≤ 24 ∧ ∀ sv ∈ ss, sv.op = 0 ∧ OkS sv) w) := by
  have HA := Lib.hid (And.intro hA (And.intro hin hs))
  clear hA hin hs
  go_enter Tryz.func6, Tryz.ntmps6
  go_wp2_with fail
  go_loop [3] (fun i => ∃ (j : Nat), i = .int .i64 (j : Int) ∧ j ≤ ss.length ∧ ∀ q sv, q < j → ss[q]? = some sv → sv.op = 0) (fun i => ss.length - (intOf i).toNat)
  case atStart => exact ⟨0, rfl, Nat.zero_le _, fun q sv h => by omega⟩
  case round =>
    obtain ⟨j, rfl, hj, hq⟩ := hrel
    have HK := Lib.hid hq
    clear hq
    by_cases hlt : j < ss.length
    · obtain ⟨sv, hsv⟩ : ∃ sv, ss[j]? = some sv := ⟨ss[j], List.getElem?_eq_getElem hlt⟩
      obtain ⟨b, o, rfl, hr⟩ := HA.out.1.elem (fun _ => rfl) (by decide) hsv
      have x0 : w.cell? ⟨b, o + j * 16, none⟩ = some (.int .i64 sv.op) := by simpa using hr 0 _ rfl
      have HS := Lib.hid hsv
      clear hr hsv
      have h0 : (0 : Int) ≤ (j : Int) := Int.natCast_nonneg _
      have h1 : (j : Int) < (ss.length : Int) := by omega
      by_cases hop : sv.op = 0
      · rw [hop] at x0
        go_wp2_with fail
        refine ⟨⟨j + 1, by go_num, by omega, fun q s hq h2 => ?_⟩, by simp [intOf]; omega⟩
        by_cases hqj : q = j
        · subst hqj
          rw [HS.out] at h2
          injection h2 with h2
          subst h2
          exact hop
        · exact HK.out q s (by omega) h2
      · go_wp2_with fail
        go_ret
        exact ⟨false, rfl, Keep.refl _ _, fun h => by cases h⟩
    · obtain rfl : j = ss.length := by omega
      have hz : ∀ sv ∈ ss, sv.op = 0 := fun sv hsv => by obtain ⟨q, hq⟩ := List.getElem?_of_mem hsv; exact HK.out q sv (List.getElem?_eq_some_iff.1 hq).1 hq
      have HD := Lib.hid (And.intro hz (deeds_any A ss c w HA.out.1 HA.out.2.1 hz HA.out.2.2 hn))
      clear hz
      go_wp2_with fail
      refine HD.out.2.mono ?_
      rintro e w2 ⟨b, rfl, hk2, hb⟩
      have H2 := Lib.hid (And.intro hk2 hb)
      clear hk2 hb
      go_wp2_with fail
      go_ret
      exact ⟨b, rfl, H2.out.1, fun h => ⟨(H2.out.2 h).1, fun sv hsv => ⟨HD.out.1 sv hsv, (H2.out.2 h).2 sv hsv⟩⟩⟩

end Go.Proofs.YtmblkpjnafgplaaGreatDoor
