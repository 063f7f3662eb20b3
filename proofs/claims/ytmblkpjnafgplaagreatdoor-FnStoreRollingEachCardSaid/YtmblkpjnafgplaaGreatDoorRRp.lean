/- The laws of storeRawMsg and of State, whatever the limit of a subject. -/
import Derived.Test.YtmblkpjnafgplaaGreatDoorRRo
import Derived.Test.YtmblkpjnafgplaaGreatDoorR31
import Derived.Test.YtmblkpjnafgplaaGreatDoorR15
namespace Go.Proofs.YtmblkpjnafgplaaGreatDoor
open Go Go.RowKit
set_option maxRecDepth 100000
set_option linter.unusedVariables false
set_option linter.unusedSimpArgs false

theorem rawLaw1 : RawLaw (fun _ => True) := fun w ms h its M F rc Ah Ad ch cd S _ hok hn hl hh hd hnr ⟨t5, v5, g5⟩ => storeRaw1 w ms h its M F rc Ah Ad ch cd S hok hn hl hh hd hnr t5 v5 g5

theorem StoreAt.span {w : World} {ms : Nat} {h : Hd} {its : List Item} {M : List Ent} {F : List Nat} (S : StoreAt w ms h its M F) : h.fsq ≤ h.n ∧ (h.cnt + h.fsq ≤ h.n ∨ (0 < h.n ∧ h.cnt = h.n - h.fsq + 1)) := by
  by_cases hi : its = []
  · have hn := S.none0.1 hi
    have hf := S.first0 hi
    have hc : h.cnt = 0 := by rw [S.cnt, hi]; rfl
    omega
  · obtain ⟨i0, t, rfl⟩ := List.exists_cons_of_ne_nil hi
    have hf := S.first i0 rfl
    have h0 := S.num i0 (by simp)
    have hlen : ((i0 :: t).map Item.seq).length ≤ (List.range' h.fsq (h.n - h.fsq + 1)).length := by
      refine nat_nodup_le' (S.srt.imp (fun h => Nat.ne_of_lt h)) (fun x hx => ?_)
      obtain ⟨i, hi, rfl⟩ := List.mem_map.1 hx
      have h1 := fsq_le S hi
      have h2 := (S.num i hi).2
      rw [List.mem_range'_1]
      omega
    rw [List.length_map, List.length_range'] at hlen
    have hc := S.cnt
    omega

theorem stLaw1 : StLaw (fun _ => True) := by
  intro w ms h its M F S _ hl0 hl4 hT
  obtain ⟨hf, hc | ⟨hn, hc⟩⟩ := S.span
  · refine (state2_any w ms h its M F S hl0 hl4 hf hc hT).mono ?_
    rintro e w' ⟨sz, nd, A, c, zs, rfl, hr, h1, h2, S', k'⟩
    exact ⟨sz, nd, A, zs.length, c, zs, rfl, hr, h1, by omega, S', k'⟩
  · refine (state0b_any w ms h its M F S hl0 hl4 hn hc hf).mono ?_
    rintro e w' ⟨sz, rfl, S', k'⟩
    exact ⟨sz, 0, _, 0, 0, [], rfl, .nil_ _ _ _, by omega, by omega, S', k'⟩

end Go.Proofs.YtmblkpjnafgplaaGreatDoor
