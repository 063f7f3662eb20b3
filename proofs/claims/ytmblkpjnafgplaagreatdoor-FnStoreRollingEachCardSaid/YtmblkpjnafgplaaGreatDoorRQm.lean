/- awakeStore. -/
import Derived.Test.YtmblkpjnafgplaaGreatDoorRQl
import Derived.Lib.SlBytesConst
import Derived.Lib.SmallJoins
import Derived.Laws.BytesArg
namespace Go.Proofs.YtmblkpjnafgplaaGreatDoor
open Go Go.RowKit
set_option maxRecDepth 100000
set_option linter.unusedVariables false
set_option linter.unusedSimpArgs false

/-- the step that awakeStore plays -/
abbrev sAw (g : Nat) : StepV := ⟨0, [97], none, [], 0, some ⟨g, 0, none⟩, [120], 1, 5, 0, 0, 0, false, none, 0, 0, 0, 0, 0, false, false, 0⟩
abbrev rAw : Rec := ⟨[97], [], [120], 5⟩

theorem rAw_ok : rAw.Ok := ⟨by decide, by decide, by decide, by decide, by decide⟩
theorem awake_run (g : Nat) : runA ⟨0, 0, 0, 0, []⟩ [sAw g] = ⟨0, 0, 0, 1, [(1, rAw)]⟩ := rfl

set_option maxHeartbeats 2000000 in
theorem awake_any (w : World) (er : Errs w) : Calls Tryz.prog 7 #[] w fun e w' => e = .returned (.bool true) ∧ Keep NoB w w' := by
  obtain ⟨i46, z46, hi46, hz46, hsz46, hzs46, hby46, hf46⟩ := info46
  have hsm46 : ¬ 1 * i46.size > 2 ^ 24 := by rw [hsz46]; decide
  have hps46 : ¬ 1 * i46.size = 0 := by rw [hsz46]; decide
  have kc := Lib.run_convert_bytes_const (P := Tryz.prog) w 37 5 #[.int .u8 120] 1 1 Tryz.underlying37 Tryz.underlying5
  have hkc : Keep NoB w (w.alloc (.cells #[.int .u8 120] 5 (1, 2))) := (Keep.refl NoB w).alloc _
  have hrow : RowAt (w.alloc (.cells #[.int .u8 120] 5 (1, 2))) 1 (some ⟨w.heap.size, 0, none⟩) 1 ([120].map byteV) := ⟨rfl, fun _ => ⟨_, rfl, rfl, fun j u hj => by
    rw [Nat.zero_add, World.cell?_alloc_mark]
    match j, hj with
    | 0, hj => exact hj⟩⟩
  have HC := Lib.hid (And.intro hkc (And.intro hrow er))
  clear hkc hrow er
  go_enter Tryz.func7, Tryz.ntmps7
  go_wp2_with (first
    | (have hx := HC; generalize hwc : w.alloc (.cells #[.int .u8 120] 5 (1, 2)) = wc at HC ⊢; refine wpList_build1 Tryz.underlying22 hi46 hz46 hsm46 hps46 rfl (.tmp 7) rfl (sAw w.heap.size).cells.toArray (sAw w.heap.size).val (by rfl) (hf46 _) ?_; intro w4 hb4 hk4; have HB4 := Lib.hid (And.intro hb4 hk4); clear hb4 hk4)
    | (have hx := HB4; refine wpList_build1 Tryz.underlying22 hi46 hz46 hsm46 hps46 rfl (.tmp 9) rfl (askV 20 1).cells.toArray (askV 20 1).val (by rfl) (hf46 _) ?_; intro w5 hb5 hk5; have HB5 := Lib.hid (And.intro hb5 hk5); clear hb5 hk5)
    | fail)
  clear hwc
  have k5 : Keep NoB w w5 := (HC.out.1.none_trans HB4.out.2).none_trans HB5.out.2
  have hask := asked_any rawLaw0 stLaw0 0 0 0 false rfl rfl (.inl rfl) (by decide) (by decide) (.inl ⟨rfl, rfl⟩) w5 (HC.out.2.2.keep k5) (some ⟨wc.heap.size, 0, none⟩) (some ⟨w4.heap.size, 0, none⟩) [sAw w.heap.size] [askV 20 1] 1 1
    (by simpa using (HB4.out.1.row1 rfl).keep HB5.out.2 (fun _ _ _ h => h)) (by simpa using HB5.out.1.row1 rfl)
    (fun sv hsv => by rw [List.mem_singleton.1 hsv]; exact .inl ⟨rfl, rAw_ok, .nil_ _ _ _, (HC.out.2.1.keep HB4.out.2 (fun _ _ _ h => h)).keep HB5.out.2 (fun _ _ _ h => h)⟩)
    (fun sv hsv => by rw [List.mem_singleton.1 hsv]) (fun sv hsv => by rw [List.mem_singleton.1 hsv]; exact .inr (.inr ⟨rfl, 1, rfl⟩)) (fun sv hsv => by rw [List.mem_singleton.1 hsv]; decide) (by simp) (by simp)
  rw [awake_run] at hask
  have HA := Lib.hid (And.intro hask k5)
  clear hask k5
  refine HA.out.1.mono ?_
  rintro e w6 ⟨A', c', ts, rfl, hl, hr, hs, hp, hk⟩
  obtain ⟨t, rfl⟩ : ∃ t, ts = [t] := List.length_eq_one_iff.1 hl
  obtain ⟨b, o, rfl, hra⟩ := hr.elem (fun _ => rfl) (by decide) (j := 0) (x := t) rfl
  rw [Nat.zero_mul, Nat.add_zero] at hra
  rcases (hs 0 (askV 20 1) t rfl rfl).2.2 1 rfl rfl with ⟨rc, hmem, hk0, hmv⟩ | ⟨hno, _⟩
  · obtain rfl : rc = rAw := by simpa using hmem
    obtain ⟨A1, c1, A2, c2, em, r1, r2, _⟩ := hmv
    simp only [List.cons.injEq, and_true] at em
    obtain ⟨m0, m1, m2, m3, m4⟩ := em
    obtain ⟨⟨b2, o2, sp⟩, u, rfl, hsp, hu, hcu⟩ := r2.at_ (k := 0) (by decide)
    simp only at hsp hcu
    subst hsp
    injection hu with hu
    subst hu
    have x0 : w6.cell? ⟨b, o, none⟩ = some (.int .i64 0) := by rw [← hk0]; simpa using hra 0 _ rfl
    have x4 : w6.cell? ⟨b, o + 4, none⟩ = some (str [97]) := by rw [show str [97] = t.m0 from m0.symm]; exact hra 4 _ rfl
    have x6 : w6.cell? ⟨b, o + 4 + 2, none⟩ = some (.slice (some ⟨b2, o2, none⟩) 1 c2) := by rw [show Value.slice (some ⟨b2, o2, none⟩) 1 c2 = t.m2 from m2.symm]; exact hra 6 _ rfl
    have x7 : w6.cell? ⟨b, o + 4 + 3, none⟩ = some (.int .u64 1) := by rw [show Value.int .u64 1 = t.m3 from m3.symm]; exact hra 7 _ rfl
    have kb : (convert 37 9 (.slice (some ⟨b2, o2, none⟩) 1 c2)).run Tryz.prog w6 = .ok (.string ⟨#[120]⟩) w6 :=
      run_convert_bytes_arg (P := Tryz.prog) w6 37 5 Tryz.underlying37 Tryz.underlying5 b2 o2 1 c2 [120] rfl (fun i hi => by
        obtain rfl : i = 0 := by omega
        exact hcu) 9 Tryz.underlying9
    have HF := Lib.hid (HA.out.2.none_trans hk)
    clear hra hs hp hk hr m0 m1 m2 m3 m4 r1 r2 hmem hk0 hl
    go_wp2_with fail
    go_ret
    exact ⟨rfl, HF.out⟩
  · exact absurd (by simp) (hno rAw)

end Go.Proofs.YtmblkpjnafgplaaGreatDoor
