/- The set of numbers: one node's bits. -/
import Derived.Test.YtmblkpjnafgplaaGreatDoorR10
import Derived.Test.YtmblkpjnafgplaaGreatDoorR11
import Derived.LoopTactic
import Derived.BigQuiet
import Derived.BigRegion
import Derived.Laws.Bits64b
import Derived.Deep.DeepCutAuto
namespace Go.Proofs.YtmblkpjnafgplaaGreatDoor
open Go Go.RowKit
set_option maxRecDepth 100000
set_option linter.unusedVariables false
set_option linter.unusedSimpArgs false

theorem pow_lt {k : Nat} (hk : k < 64) : 2 ^ k < 18446744073709551616 := by
  have := Nat.pow_lt_pow_right (a := 2) (by decide) hk
  simpa using this
theorem wrap_pow {k : Nat} (hk : k < 64) : IntKind.u64.wrap (2 ^ k) = ((2 ^ k : Nat) : Int) := by
  have h := pow_lt hk
  have e : (2 : Int) ^ k = ((2 ^ k : Nat) : Int) := by simp
  rw [e, IntKind.wrap_u64]
  generalize 2 ^ k = p at h
  omega
theorem and_pow (B k : Nat) : B &&& 2 ^ k = if B.testBit k then 2 ^ k else 0 := by
  apply Nat.eq_of_testBit_eq
  intro i
  rw [Nat.testBit_and, Nat.testBit_two_pow]
  by_cases hki : k = i
  · subst hki
    cases hb : B.testBit k <;> simp [Nat.testBit_two_pow]
  · cases hb : B.testBit k <;> simp [hki, Nat.testBit_two_pow]
theorem bit_and {B k : Nat} (hB : B < 18446744073709551616) (hk : k < 64) : bits BinOp.and IntKind.u64 (B : Int) (IntKind.u64.wrap (2 ^ k)) = if B.testBit k then ((2 ^ k : Nat) : Int) else 0 := by
  rw [wrap_pow hk, bits_and_u64_nat B (2 ^ k) hB (pow_lt hk), and_pow]
  cases B.testBit k <;> simp
theorem bit_or {B k : Nat} (hB : B < 18446744073709551616) (hk : k < 64) : bits BinOp.or IntKind.u64 (B : Int) (IntKind.u64.wrap (2 ^ k)) = ((B ||| 2 ^ k : Nat) : Int) := by
  rw [wrap_pow hk, bits_or_u64_nat B (2 ^ k) hB (pow_lt hk)]
theorem bit_clr {B k : Nat} (hB : B < 18446744073709551616) (hk : k < 64) (hb : B.testBit k = true) : bits BinOp.andNot IntKind.u64 (B : Int) (IntKind.u64.wrap (2 ^ k)) = ((B ^^^ 2 ^ k : Nat) : Int) := by
  rw [wrap_pow hk]
  have h1 : (BitVec.ofInt 64 (B : Int)).toNat = B := by
    rw [BitVec.ofInt_natCast, BitVec.toNat_ofNat]; exact Nat.mod_eq_of_lt hB
  have h2 : (BitVec.ofInt 64 ((2 ^ k : Nat) : Int)).toNat = 2 ^ k := by
    rw [BitVec.ofInt_natCast, BitVec.toNat_ofNat]; exact Nat.mod_eq_of_lt (pow_lt hk)
  have e : BitVec.ofInt 64 (B : Int) &&& ~~~ BitVec.ofInt 64 ((2 ^ k : Nat) : Int) = BitVec.ofInt 64 (B : Int) ^^^ BitVec.ofInt 64 ((2 ^ k : Nat) : Int) := by
    apply BitVec.eq_of_getLsbD_eq
    intro i hi
    rw [BitVec.getLsbD_and, BitVec.getLsbD_not, BitVec.getLsbD_xor]
    have g1 : (BitVec.ofInt 64 (B : Int)).getLsbD i = B.testBit i := by rw [← BitVec.testBit_toNat, h1]
    have g2 : (BitVec.ofInt 64 ((2 ^ k : Nat) : Int)).getLsbD i = decide (k = i) := by rw [← BitVec.testBit_toNat, h2, Nat.testBit_two_pow]
    rw [g1, g2]
    by_cases hki : k = i
    · subst hki; simp [hb]
    · simp [hki, hi]
  show IntKind.u64.wrap ((BitVec.ofInt 64 (B : Int) &&& ~~~ BitVec.ofInt 64 ((2 ^ k : Nat) : Int)).toNat : Int) = _
  have hx : B ^^^ 2 ^ k < 2 ^ 64 := Nat.xor_lt_two_pow (by omega) (by have := pow_lt hk; omega)
  rw [e, BitVec.toNat_xor, h1, h2, IntKind.wrap_u64]
  omega

set_option maxHeartbeats 2000000 in
theorem set_any {w : World} {nb B k g o : Nat} {x : Bool} (hb : Blk w nb 204 (dC B)) (hB : B < 18446744073709551616) (hk : k < 64) (hbit : B.testBit k = false) (hf : w.cell? ⟨g, o, none⟩ = some (.bool x)) (hfz : w.frozen? ⟨g, o, none⟩ = false) (hne : g ≠ nb) :
    Calls Tryz.prog 132 #[.pointer (some ⟨nb, 0, none⟩), .int .u64 (k : Int), .pointer (some ⟨g, o, none⟩)] w fun e w' => e = .returned (.tuple #[]) ∧
      ∃ w1, Blk w1 nb 204 (dC (B ||| 2 ^ k)) ∧ Keep (fun x => x = nb) w w1 ∧ w' = w1.setCell ⟨g, o, none⟩ (.bool true) := by
  have c0 : w.cell? ⟨nb, 0, none⟩ = some (.int .u64 0) := by rw [hb.cell]; rfl
  have c1 : w.cell? ⟨nb, 1, none⟩ = some (.int .u64 (B : Int)) := by rw [hb.cell]; rfl
  have f1 := hb.frozen 1
  have k0 : (0 : Int) ≤ (k : Int) := Int.natCast_nonneg _
  have k1 : (k : Int) < 64 := by omega
  have q1 : k / 64 = 0 := by omega
  have q1' : (k : Int) / 64 = 0 := by omega
  have q2 : k % 64 = k := by omega
  have q2' : (k : Int) % 64 = (k : Int) := by omega
  have hand : bits BinOp.and IntKind.u64 (B : Int) (IntKind.u64.wrap (2 ^ k)) = 0 := by rw [bit_and hB hk, hbit]; rfl
  obtain ⟨B', hB'⟩ : ∃ B', B' = B ||| 2 ^ k := ⟨_, rfl⟩
  have hor : bits BinOp.or IntKind.u64 (B : Int) (IntKind.u64.wrap (2 ^ k)) = (B' : Int) := by rw [bit_or hB hk, hB']
  have HB := Lib.hid (And.intro hb hB')
  have hgn : ∀ j, (⟨g, o, none⟩ : Addr) ≠ ⟨nb, j, none⟩ := fun j e => hne (by injection e)
  clear hb hB'
  go_enter Tryz.func132, Tryz.ntmps132
  go_wp2_with fail
  go_region
  all_goals
    go_wp2_with fail
    go_end0
    obtain ⟨hb, rfl⟩ := HB.out
    exact ⟨rfl, _, (hb.drew).set_ 1 _, (((Keep.refl (fun x => x = nb) w).drew).put rfl 1 _), rfl⟩

abbrev z32 : List Value := [.int .u64 0, .int .u64 0, .int .u64 0, .int .u64 0, .int .u64 0, .int .u64 0, .int .u64 0, .int .u64 0, .int .u64 0, .int .u64 0, .int .u64 0, .int .u64 0, .int .u64 0, .int .u64 0, .int .u64 0, .int .u64 0,
  .int .u64 0, .int .u64 0, .int .u64 0, .int .u64 0, .int .u64 0, .int .u64 0, .int .u64 0, .int .u64 0, .int .u64 0, .int .u64 0, .int .u64 0, .int .u64 0, .int .u64 0, .int .u64 0, .int .u64 0, .int .u64 0]

theorem index202 (ar : Array Value) (j : Nat) (u : Value) (hs : ar.size = 32) (h : ar[j]? = some u) (hu : u.oneCell' = true) (w : World) : (Instr.index 202 (.agg ar) (.int .i64 (j : Int))).run Tryz.prog w = .ok u w := by
  have hj : j < 32 := by rw [← hs]; exact (Array.getElem?_eq_some_iff.1 h).1
  have h1 : (0 : Int) ≤ (j : Int) ∧ (j : Int) < 32 := by omega
  simp [Instr.index, run_underlying Tryz.underlying202, asIntOf, h1, go_sem]
  rw [if_pos hj, h]
  rfl

set_option maxHeartbeats 4000000 in
theorem clear_any {w : World} {nb B k g o : Nat} {x : Bool} (hb : Blk w nb 204 (dC B)) (hB : B < 18446744073709551616) (hk : k < 64) (hbit : B.testBit k = true) (hf : w.cell? ⟨g, o, none⟩ = some (.bool x)) (hfz : w.frozen? ⟨g, o, none⟩ = false) (hne : g ≠ nb) :
    Calls Tryz.prog 195 #[.pointer (some ⟨nb, 0, none⟩), .int .u64 (k : Int), .pointer (some ⟨g, o, none⟩)] w fun e w' => e = .returned (.bool (decide (B ^^^ 2 ^ k = 0))) ∧
      ∃ w1, Blk w1 nb 204 (dC (B ^^^ 2 ^ k)) ∧ Keep (fun x => x = nb) w w1 ∧ w' = w1.setCell ⟨g, o, none⟩ (.bool true) := by
  have c0 : w.cell? ⟨nb, 0, none⟩ = some (.int .u64 0) := by rw [hb.cell]; rfl
  have c1 : w.cell? ⟨nb, 1, none⟩ = some (.int .u64 (B : Int)) := by rw [hb.cell]; rfl
  have f1 := hb.frozen 1
  have k0 : (0 : Int) ≤ (k : Int) := Int.natCast_nonneg _
  have k1 : (k : Int) < 64 := by omega
  have q1 : k / 64 = 0 := by omega
  have q1' : (k : Int) / 64 = 0 := by omega
  have q2 : k % 64 = k := by omega
  have q2' : (k : Int) % 64 = (k : Int) := by omega
  have hpos : 2 ^ k > 0 := Nat.pow_pos (by decide)
  obtain ⟨P, hP, hP0⟩ : ∃ P : Int, P = ((2 ^ k : Nat) : Int) ∧ ¬ P = 0 := ⟨_, rfl, by omega⟩
  have hand : bits BinOp.and IntKind.u64 (B : Int) (IntKind.u64.wrap (2 ^ k)) = P := by rw [bit_and hB hk, hbit, hP]; rfl
  obtain ⟨B', hB'⟩ : ∃ B', B' = B ^^^ 2 ^ k := ⟨_, rfl⟩
  have hclr : bits BinOp.andNot IntKind.u64 (B : Int) (IntKind.u64.wrap (2 ^ k)) = (B' : Int) := by rw [bit_clr hB hk hbit, hB']
  rw [← hB']
  have hgn : ∀ j, (⟨g, o, none⟩ : Addr) ≠ ⟨nb, j, none⟩ := fun j e => hne (by injection e)
  have hb2 := (hb.drew).set_ 1 (.int .u64 (B' : Int))
  have hk2 := ((Keep.refl (fun x => x = nb) w).drew).put rfl 1 (.int .u64 (B' : Int))
  have hb3 := (keep1 (w.drew.setCell ⟨nb, 1, none⟩ (.int .u64 (B' : Int))) g o (.bool true)).blk hb2 (fun e => hne e.symm)
  have HB := Lib.hid (And.intro hb2 (And.intro hk2 hb3))
  have hi202 : (Tryz.prog.info? 202).map (·.size) = some 32 := by kernel_rfl
  clear hb hB' hb2 hk2 hb3 hP
  by_cases hz : B' = 0
  · subst hz
    have hrg := (show Blk _ nb 204 (dC 0) from HB.out.2.2).rangeAt_part 1 z32 (fun j v hv => by
      have e : z32 = ((dC 0).toList.drop 1).take 32 := rfl
      rw [e, List.getElem?_take] at hv
      split at hv
      · rw [List.getElem?_drop, Array.getElem?_toList] at hv
        exact hv
      · cases hv)
    have HG := Lib.hid hrg
    clear hrg
    go_enter Tryz.func195, Tryz.ntmps195
    go_wp2_with fail
    go_region
    all_goals
      go_wp2_with (first | (refine wpList_load_mid rfl 202 (.tmp 53) rfl nb 1 rfl z32 _ HG.out Tryz.underlying202 rfl hi202 ?_) | fail)
      obtain ⟨ar, har⟩ : ∃ ar : Array Value, ar = z32.toArray := ⟨_, rfl⟩
      have hsz : ar.size = 32 := by rw [har]; rfl
      have hix : ∀ j, j < 32 → ar[j]? = some (.int .u64 0) := by
        intro j hj
        have h2 : ar.toList = List.replicate 32 (.int .u64 0) := by rw [har]; rfl
        rw [← Array.getElem?_toList, h2, List.getElem?_replicate, if_pos hj]
      rw [← har]
      have HX := Lib.hid hix
      clear hix har
      go_loop [10, 55] (fun v10 v55 => ∃ j : Nat, v55 = .int .i64 (j : Int) ∧ j ≤ 32) (fun _ v55 => 32 - (intOf v55).toNat)
      case atStart => exact ⟨0, rfl, by decide⟩
      case round =>
        obtain ⟨j, rfl, hj⟩ := hrel
        by_cases hlt : j < 32
        · have hv : ∀ W, (Instr.index 202 (.agg ar) (.int .i64 (j : Int))).run Tryz.prog W = .ok (.int .u64 0) W := fun W => index202 ar j _ hsz (HX.out j hlt) rfl W
          have g0 : (0 : Int) ≤ (j : Int) := Int.natCast_nonneg _
          have g1 : (j : Int) < 32 := by omega
          go_wp2_with fail
          exact ⟨⟨j + 1, by go_num, by omega⟩, by simp [intOf]; omega⟩
        · go_wp2_with fail
          go_ret
          exact ⟨rfl, _, HB.out.1, HB.out.2.1, rfl⟩
  · go_enter Tryz.func195, Tryz.ntmps195
    go_wp2_with fail
    go_region
    all_goals
      go_wp2_with fail
      go_ret
      exact ⟨by rw [decide_eq_false hz]; rfl, _, HB.out.1, HB.out.2.1, rfl⟩

end Go.Proofs.YtmblkpjnafgplaaGreatDoor
