/- The set of numbers: gone through. -/
import Derived.Test.YtmblkpjnafgplaaGreatDoorRRc
import Derived.Test.YtmblkpjnafgplaaGreatDoorR17
import Derived.Laws.Bits64b
import Derived.Lib.TrailingZeros
namespace Go.Proofs.YtmblkpjnafgplaaGreatDoor
open Go Go.RowKit
set_option maxRecDepth 100000
set_option linter.unusedVariables false
set_option linter.unusedSimpArgs false

set_option maxHeartbeats 1000000 in
theorem tz_core (x k idx : Nat) (w : World) (hx0 : ((x : Int) == 0) = false)
    (key : IntKind.u64.wrap (bits BinOp.and IntKind.u64 (x : Int) (IntKind.u64.wrap (-(x : Int))) * 285870213051353865) / 288230376151711744 = (idx : Int))
    (hi : idx < 64) (hk : k < 64) (hcell : w.cell? ⟨13, idx, none⟩ = some (.int .u8 k)) :
    Calls Tryz.prog 226 #[.int .u64 x] w fun e w' => e = .returned (.int .i64 k) ∧ w' = w := by
  go_enter Tryz.func226, Tryz.ntmps226
  go_wp2_with (simp only [key])
  go_ret
  exact ⟨rfl, rfl⟩

theorem tz_key (x a : Nat) (hx : x < 18446744073709551616) (hx0 : x ≠ 0) (hlow : x &&& (18446744073709551616 - x) = a) :
    IntKind.u64.wrap (bits BinOp.and IntKind.u64 (x : Int) (IntKind.u64.wrap (-(x : Int))) * 285870213051353865) / 288230376151711744 = ((a * 285870213051353865 % 18446744073709551616 / 288230376151711744 : Nat) : Int) := by
  have e1 : IntKind.u64.wrap (-(x : Int)) = ((18446744073709551616 - x : Nat) : Int) := by rw [IntKind.wrap_u64]; omega
  rw [e1, bits_and_u64_nat x _ hx (by omega), hlow, IntKind.wrap_u64]
  omega

theorem tz_any (x : Nat) (hx0 : x ≠ 0) (hx : x < 18446744073709551616) (w : World) (hT : Tab w) :
    ∃ k, k < 64 ∧ x.testBit k = true ∧ (x &&& (x - 1)).testBit k = false ∧ Calls Tryz.prog 226 #[.int .u64 x] w fun e w' => e = .returned (.int .i64 (k : Int)) ∧ w' = w := by
  obtain ⟨hlow, hk⟩ := Lib.lowest_bit 64 x hx0 hx
  obtain ⟨hi, htab⟩ := Lib.deBruijn64_at _ hk
  refine ⟨Lib.ctz 64 x, hk, ?_, ?_, ?_⟩
  rotate_left
  · obtain ⟨m, hm, _⟩ := Lib.ctzFrom_spec 64 x (by omega) hx
    have e : Lib.ctz 64 x = Lib.ctzFrom 64 x := by simp [Lib.ctz, hx0]
    rw [e]
    generalize Lib.ctzFrom 64 x = c at hm
    have hp : 0 < 2 ^ c := Nat.pow_pos (by decide)
    have hx1 : x - 1 = 2 ^ c * (2 * m) + (2 ^ c - 1) := by rw [hm, Nat.mul_add, Nat.mul_one]; omega
    rw [Nat.testBit_and, Nat.testBit_eq_decide_div_mod_eq (x := x - 1), hx1, Nat.mul_add_div hp, Nat.div_eq_of_lt (by omega : 2 ^ c - 1 < 2 ^ c)]
    have : (2 * m + 0) % 2 = 0 := by omega
    rw [this]
    simp
  rotate_left
  · have h1 := congrArg (fun y => y.testBit (Lib.ctz 64 x)) hlow
    simp only [Nat.testBit_and, Nat.testBit_two_pow_self] at h1
    exact (Bool.and_eq_true_iff.1 h1).1
  · refine tz_core x _ _ w (by simpa using hx0) (tz_key x _ hx hx0 hlow) hi hk ?_
    rw [hT _ hi, htab]

theorem iter_nil (f : Value) (w : World) : Calls Tryz.prog 168 #[.pointer none, f] w fun e w' => e = .returned (.bool true) ∧ w' = w := by
  go_enter Tryz.func168, Tryz.ntmps168
  go_wp2
  go_ret
  exact ⟨rfl, rfl⟩

/-- the lowest bit put out -/
theorem and_pred_lt {x : Nat} (h : x ≠ 0) : x &&& (x - 1) < x := Nat.lt_of_le_of_lt Nat.and_le_right (by omega)
theorem and_pred_bit {x y : Nat} (k : Nat) (h : (x &&& y).testBit k = true) : x.testBit k = true := by
  rw [Nat.testBit_and] at h
  exact (Bool.and_eq_true_iff.1 h).1

set_option maxHeartbeats 4000000 in
theorem iter_any {I : Nat → World → Prop} {nb B : Nat} {p1 p2 p3 p4 : Value} {w : World} (hI : ∀ B' w, I B' w → Blk w nb 204 (dC B) ∧ Tab w) (hB : B < 18446744073709551616)
    (hcall : ∀ w k B', I B' w → k < 64 → B.testBit k = true → B'.testBit k = true → (B' &&& (B' - 1)).testBit k = false → Calls Tryz.prog 105 #[.int .u64 (k : Int), p1, p2, p3, p4] w fun e w' => e = .returned (.bool true) ∧ I (B' &&& (B' - 1)) w') (h : I B w) :
    Calls Tryz.prog 168 #[.pointer (some ⟨nb, 0, none⟩), .func (Fn.func 105) #[] #[p1, p2, p3, p4]] w fun e w' => e = .returned (.bool true) ∧ ∃ B', I B' w' := by
  have hb := (hI B w h).1
  have hi202 : (Tryz.prog.info? 202).map (·.size) = some 32 := by kernel_rfl
  have x0 : w.cell? ⟨nb, 0, none⟩ = some (.int .u64 0) := by rw [hb.cell]; rfl
  have x33 : w.cell? ⟨nb, 33, none⟩ = some (.pointer none) := by rw [hb.cell]; rfl
  have HH := Lib.hid (And.intro hI (And.intro hcall h))
  clear hI hcall h
  obtain ⟨ar, har⟩ : ∃ ar : List Value, ar = .int .u64 (B : Int) :: List.replicate 31 (.int .u64 0) := ⟨_, rfl⟩
  have hrg := hb.rangeAt_part 1 ar (fun j v hv => by
      have e : ar = ((dC B).toList.drop 1).take 32 := by rw [har]; rfl
      rw [e, List.getElem?_take] at hv
      split at hv
      · rw [List.getElem?_drop, Array.getElem?_toList] at hv
        exact hv
      · cases hv)
  have hsz : ar.toArray.size = 32 := by rw [har]; rfl
  have hi202' : (Tryz.prog.info? 202).map (·.size) = some ar.length := by rw [hi202, har]; rfl
  have hix : ∀ j, j < 32 → ∃ Bj, ar.toArray[j]? = some (.int .u64 ((Bj : Nat) : Int)) ∧ Bj < 18446744073709551616 ∧ (Bj = 0 ∨ (j = 0 ∧ Bj = B)) := by
    intro j hj
    cases j with
    | zero => exact ⟨B, by rw [har]; rfl, hB, .inr ⟨rfl, rfl⟩⟩
    | succ j => exact ⟨0, by rw [har]; simp only [List.getElem?_toArray, List.getElem?_cons_succ, List.getElem?_replicate]; rw [if_pos (by omega)]; rfl, by decide, .inl rfl⟩
  have HG := Lib.hid (And.intro hrg hix)
  clear hrg hix hb har
  go_enter Tryz.func168, Tryz.ntmps168
  go_wp2_with fail
  refine (iter_nil _ _).mono ?_
  rintro e w1 ⟨rfl, rfl⟩
  go_wp2_with (first | (refine wpList_load_mid rfl 202 (.tmp 23) rfl nb 1 rfl ar _ HG.out.1 Tryz.underlying202 rfl hi202' ?_) | fail)
  generalize hAR : ar.toArray = AR at *
  go_loopw [25] (fun v25 wr => ∃ j B0 : Nat, v25 = .int .i64 (j : Int) ∧ j ≤ 32 ∧ I B0 wr ∧ (j = 0 → B0 = B)) (fun v25 _ => 32 - (intOf v25).toNat)
  case atStart => exact ⟨0, B, rfl, by decide, HH.out.2.2, fun _ => rfl⟩
  case round =>
    obtain ⟨j, B0, rfl, hj, hIr, hj0⟩ := hrel
    have hbr := (HH.out.1 B0 wr hIr).1
    have x0 : wr.cell? ⟨nb, 0, none⟩ = some (.int .u64 0) := by rw [hbr.cell]; rfl
    have x34 : wr.cell? ⟨nb, 34, none⟩ = some (.pointer none) := by rw [hbr.cell]; rfl
    have HR := Lib.hid (And.intro hIr hj0)
    clear hIr hbr hj0
    have g0 : (0 : Int) ≤ (j : Int) := Int.natCast_nonneg _
    by_cases hlt : j < 32
    · have g1 : (j : Int) < 32 := by omega
      obtain ⟨Bj, hBj, hBl, hBo⟩ := HG.out.2 j hlt
      have hv : ∀ W, (Instr.index 202 (.agg AR) (.int .i64 (j : Int))).run Tryz.prog W = .ok (.int .u64 (Bj : Int)) W := fun W => index202 AR j _ hsz hBj rfl W
      clear hBj
      rcases hBo with rfl | ⟨rfl, rfl⟩
      · have hv : ∀ W, (Instr.index 202 (.agg AR) (.int .i64 (j : Int))).run Tryz.prog W = .ok (.int .u64 0) W := hv
        go_wp2_with fail
        go_loopw [7] (fun v7 wq => v7 = .int .u64 0 ∧ I B0 wq) (fun v7 _ => 0)
        case atStart => exact ⟨rfl, HR.out.1⟩
        case round =>
          obtain ⟨rfl, hIq⟩ := hrel
          have HQ := Lib.hid hIq
          clear hIq
          go_wp2_with fail
          exact ⟨⟨j + 1, B0, by go_num, by omega, HQ.out, fun e => by omega⟩, by simp [intOf]; omega⟩
      · have hv : ∀ W, (Instr.index 202 (.agg AR) (.int .i64 0)).run Tryz.prog W = .ok (.int .u64 (Bj : Int)) W := hv
        clear g0 g1 hlt hj
        have hB0 : B0 = Bj := HR.out.2 rfl
        subst hB0
        rw [show ((0 : Nat) : Int) = 0 from rfl]
        go_wp2_with fail
        go_loopw [7] (fun v7 wq => ∃ B' : Nat, v7 = .int .u64 (B' : Int) ∧ B' < 18446744073709551616 ∧ (∀ k, B'.testBit k = true → B0.testBit k = true) ∧ I B' wq) (fun v7 _ => (intOf v7).toNat)
        case atStart => exact ⟨B0, rfl, hBl, fun _ h => h, HR.out.1⟩
        case round =>
          obtain ⟨B', rfl, hB1, hB2, hIq⟩ := hrel
          have HQ := Lib.hid (And.intro hIq hB2)
          clear hIq hB2
          by_cases hz : B' = 0
          · subst hz
            have hz0 : (((0 : Nat) : Int)) = 0 := rfl
            go_wp2_with fail
            exact ⟨⟨1, 0, rfl, by decide, HQ.out.1, fun e => by omega⟩, by simp [intOf]⟩
          · obtain ⟨k, hk, hkb, hko, htz⟩ := tz_any B' hz hB1 wr (HH.out.1 B' wr HQ.out.1).2
            have HCL := Lib.hid (HH.out.2.1 wr k B' HQ.out.1 hk (HQ.out.2 k hkb) hkb hko)
            clear hko
            have hz1 : ¬ (B' : Int) = 0 := by omega
            have hand : bits BinOp.and IntKind.u64 (B' : Int) (IntKind.u64.wrap ((B' : Int) - 1)) = ((B' &&& (B' - 1) : Nat) : Int) := by
              have e1 : IntKind.u64.wrap ((B' : Int) - 1) = ((B' - 1 : Nat) : Int) := by rw [IntKind.wrap_u64]; omega
              rw [e1, bits_and_u64_nat B' _ hB1 (by omega)]
            have hlt := and_pred_lt hz
            have hal : B' &&& (B' - 1) < 18446744073709551616 := by omega
            have hab := fun k => and_pred_bit (x := B') (y := B' - 1) k
            generalize B' &&& (B' - 1) = B2 at hand hlt hal hab HCL
            have g0 : (0 : Int) < (B' : Int) := by omega
            have g1 : (B' : Int) < 18446744073709551616 := by omega
            have k0 : (0 : Int) ≤ (k : Int) := Int.natCast_nonneg _
            have k1 : (k : Int) < 64 := by omega
            have HT := Lib.hid (And.intro htz (And.intro hkb (And.intro hab (And.intro hal (And.intro hlt (And.intro hand hv))))))
            clear htz hkb hab hal hlt hand hv hB1 g1 hBl hB
            go_wp2_with fail
            refine HT.out.1.mono ?_
            rintro e w2 ⟨rfl, rfl⟩
            go_wp2_with fail
            refine HCL.out.mono ?_
            rintro e w3 ⟨rfl, hI3⟩
            have hand := HT.out.2.2.2.2.2.1
            have H3 := Lib.hid hI3
            clear hI3
            go_wp2_with fail
            exact ⟨⟨B2, rfl, HT.out.2.2.2.1, fun y hy => HQ.out.2 y (HT.out.2.2.1 y hy), H3.out⟩, by simp [intOf]; exact HT.out.2.2.2.2.1⟩
    · go_wp2_with fail
      refine (iter_nil _ _).mono ?_
      rintro e w1 ⟨rfl, rfl⟩
      go_wp2_with fail
      go_ret
      exact ⟨rfl, B0, HR.out.1⟩

end Go.Proofs.YtmblkpjnafgplaaGreatDoor
