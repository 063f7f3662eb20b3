/- State's law; state. -/
import Derived.Test.YtmblkpjnafgplaaGreatDoorR17
import Derived.Deep.RegionLawGrows
namespace Go.Proofs.YtmblkpjnafgplaaGreatDoor
open Go Go.RowKit
set_option maxRecDepth 100000
set_option linter.unusedVariables false
set_option linter.unusedSimpArgs false

abbrev u64V (z : Nat) : Value := .int .u64 (z : Int)

/-- what State answers, where the limit of a subject is as P says -/
def StLaw (P : Nat → Prop) : Prop := ∀ (w : World) (ms : Nat) (h : Hd) (its : List Item) (M : List Ent) (F : List Nat), StoreAt w ms h its M F → P h.mp → h.l0 = 0 → h.l4 = 0 → Tab w →
  Calls Tryz.prog 53 #[.pointer (some ⟨ms, 0, none⟩)] w fun e w' => ∃ (sz nd : Int) (A : Option Addr) (k c : Nat) (zs : List Nat), e = .returned (.agg (stC h sz nd (.slice A k c)).toArray) ∧ RowAt w' 1 A k (zs.map u64V) ∧ k ≤ c ∧ k ≤ 100 ∧ StoreAt w' ms h its M F ∧ Keep (fun k => k = ms) w w'

theorem StoreAt.whole {w : World} {ms : Nat} {h : Hd} {its : List Item} {M : List Ent} {F : List Nat} (S : StoreAt w ms h its M F) (h0 : h.mp = 0) (hn : 0 < h.n) : h.cnt = h.n - h.fsq + 1 ∧ h.fsq ≤ h.n := by
  have hne : its ≠ [] := fun e => by have := S.none0.1 e; omega
  obtain ⟨i0, t, rfl⟩ : ∃ i0 t, its = i0 :: t := by
    cases its with
    | nil => exact absurd rfl hne
    | cons i t => exact ⟨i, t, rfl⟩
  have hf := S.first i0 rfl
  have hfn : h.fsq ≤ h.n := by rw [hf]; exact (S.num i0 (by simp)).2
  refine ⟨?_, hfn⟩
  have hall : ∀ k, h.fsq ≤ k → k ≤ h.n → k ∈ (i0 :: t).map Item.seq := by
    intro k h1 h2
    rcases Nat.eq_or_lt_of_le h1 with e | h1
    · rw [← e, hf]; simp
    · rcases S.dm with ⟨_, hx⟩ | ⟨nb, B, e0, _⟩
      · refine Classical.byContradiction fun hc => hx k ⟨h1, h2, hc⟩
      · rw [S.dn h0] at e0; cases e0
  have e : (i0 :: t).map Item.seq = List.range' h.fsq (h.n - h.fsq + 1) := by
    refine List.Perm.eq_of_pairwise (le := (· ≤ ·)) ?_ (S.srt.imp (fun h => Nat.le_of_lt h)) (List.pairwise_le_range') ?_
    · intro a b _ _ h1 h2; exact Nat.le_antisymm h1 h2
    · rw [List.perm_ext_iff_of_nodup (S.srt.imp (fun h => Nat.ne_of_lt h)) List.nodup_range']
      intro k
      rw [List.mem_range'_1]
      constructor
      · intro hk
        obtain ⟨i, hi, rfl⟩ := List.mem_map.1 hk
        have h2 := (S.num i hi).2
        have h1 : i0.seq ≤ i.seq := by
          rcases List.mem_cons.1 hi with rfl | hi
          · exact Nat.le_refl _
          · have := S.srt
            rw [List.map_cons, List.pairwise_cons] at this
            exact Nat.le_of_lt (this.1 _ (List.mem_map.2 ⟨i, hi, rfl⟩))
        rw [hf]; omega
      · intro hk; exact hall k hk.1 (by omega)
  have := congrArg List.length e
  rw [List.length_map, List.length_range'] at this
  rw [S.cnt]; exact this

theorem stLaw0 : StLaw (fun m => m = 0) := by
  intro w ms h its M F S h0 hl0 hl4 _
  have hd := S.dn h0
  by_cases hn : h.n = 0
  · have hi := S.none0.2 hn
    have hc : h.cnt = 0 := by rw [S.cnt, hi]; rfl
    have hf := S.first0 hi
    refine (state1_any w ms h its M F S hl0 hl4 hd hn hc hf).mono ?_
    rintro e w' ⟨sz, b, rfl, S', k'⟩
    exact ⟨sz, 0, _, 0, 1, [], rfl, .nil_ _ _ _, by omega, by omega, S', k'⟩
  · obtain ⟨hc, hf⟩ := S.whole h0 (by omega)
    refine (state0_any w ms h its M F S hl0 hl4 hd (by omega) hc hf).mono ?_
    rintro e w' ⟨sz, rfl, S', k'⟩
    exact ⟨sz, 0, _, 0, 0, [], rfl, .nil_ _ _ _, by omega, by omega, S', k'⟩

theorem append_u (A : Option Addr) (m c : Nat) (zs : List Nat) (w : World) (ty : TypeId) (hA : RowAt w 1 A m (zs.map u64V)) (hmc : m ≤ c) (hl : m ≤ 1000000) :
    ∃ A' n' c' w', (Builtin.append_ #[28, 28] ty #[.slice none 0 0, .slice A m c]).run Tryz.prog w = .ok (.slice A' n' c') w' ∧ Keep NoB w w' := by
  have hm : zs.length = m := by simpa using hA.1
  have hi5 : ∃ i, Tryz.prog.info? 25 = some i ∧ i.zero = some (.int .u64 0) ∧ i.size = 1 ∧ i.bytes = 8 := ⟨_, rfl, rfl, rfl, rfl⟩
  obtain ⟨i, hi, hz, hsz, hby⟩ := hi5
  rcases Nat.eq_zero_or_pos m with rfl | hpos
  · refine ⟨none, 0, 0, w, ?_, Keep.refl _ _⟩
    cases A with
    | none => simp [Builtin.append_, run_underlying Tryz.underlying28, sizeOf, typeInfo, hi, Builtin.lenOf, Builtin.firstCells]
    | some ad => simp [Builtin.append_, run_underlying Tryz.underlying28, sizeOf, typeInfo, hi, Builtin.lenOf, Builtin.firstCells, loadCells, loadCellsFrom]
  · obtain ⟨⟨ab, ao, as_⟩, rfl, rfl, hc⟩ := hA.2 hpos
    have h1 : ∀ u ∈ zs.map u64V, u.oneCell' = true := by
      intro u hu
      obtain ⟨b, _, rfl⟩ := List.mem_map.1 hu
      rfl
    obtain ⟨v', w', r1, r2, r3, _⟩ := run_append_own (P := Tryz.prog) w w.heap.size 28 ty 25 i (.int .u64 0) 1 8 Tryz.underlying28 hi hz hsz hby rfl (by decide) (.slice none 0 0) 0 [] (World.ownsRow_nil _ _ _ _) ⟨ab, ao, none⟩ m c (zs.map u64V) (by simp [hm])
      (fun j u hj => by rw [Addr.add_lit]; exact hc j u hj) h1 (by unfold maxLen; omega) (by omega) (Nat.le_refl _)
    rcases r2.2 with ⟨rfl, _⟩ | ⟨g, cap, cur, rfl, _⟩
    · exact ⟨none, 0, 0, w', r1, ⟨r3.os, r3.tape, r3.output, r3.size, fun k hk _ => r3.block k hk (by simp [Value.ownBlock])⟩⟩
    · exact ⟨_, _, _, w', r1, ⟨r3.os, r3.tape, r3.output, r3.size, fun k hk _ => r3.block k hk (by simp [Value.ownBlock])⟩⟩

theorem step_append_u {ops : Array Oper} {o : Oper} {a : Act} {w : World} {K : Act → World → Prop} {Q : Exit → Act → World → Prop} {E : Prop}
    (hg : o.guard = none) (s x : Operand) (hop : o.op = Op.call { callee := Callee.builtin Builtin.append, args := #[s, x], argTypes := #[28, 28] })
    (A : Option Addr) (m c : Nat) (zs : List Nat) (hs : a.eval s = .slice none 0 0) (hx : a.eval x = .slice A m c) (hA : RowAt w 1 A m (zs.map u64V)) (hmc : m ≤ c) (hl : m ≤ 1000000)
    (hK : ∀ A' n' c' w', Keep NoB w w' → K (a.put o.dst (.slice A' n' c')) w') :
    if Region.wanted o (yielded ops a.tmps) = true then Oper.wp Tryz.prog o a w K Q else E := by
  have hw : Region.wanted o (yielded ops a.tmps) = true := by simp [Region.wanted, hg]
  rw [if_pos hw]
  obtain ⟨A', n', c', w', hrun, r1⟩ := append_u A m c zs w o.type hA hmc hl
  unfold Oper.wp
  simp [execOp, hop, resolve, invoke, builtin, hs, hx, hrun, Result.andThen]
  exact hK A' n' c' w' r1

/-- state's cells -/
abbrev sC (h : Hd) (sz nd : Int) (dv : Value) : List Value := [.int .u64 (h.cnt : Int), .int .u64 h.byt, .int .u64 (h.fsq : Int), .int .u64 (h.n : Int), .int .i64 h.ft, .int .i64 h.lt, .int .i64 sz, .int .i64 nd, dv, .int .u64 0]
abbrev zS : Array Value := #[.int .u64 0, .int .u64 0, .int .u64 0, .int .u64 0, .int .i64 0, .int .i64 0, .int .i64 0, .int .i64 0, .slice none 0 0, .int .u64 0]

set_option maxHeartbeats 4000000 in
theorem st_any (h : Hd) (sz nd : Int) (A : Option Addr) (k c : Nat) (zs : List Nat) (w : World) (hA : RowAt w 1 A k (zs.map u64V)) (hkc : k ≤ c) (hk : k ≤ 100) :
    Calls Tryz.prog 52 #[.agg (stC h sz nd (.slice A k c)).toArray] w fun e w' => ∃ A' n' c', e = .returned (.agg (sC h sz nd (.slice A' n' c')).toArray) ∧ Keep NoB w w' := by
  have hb1 := (Blk.new w 80 (stC h sz nd (.slice A k c)).toArray).alloc (.cells zS 30)
  have hb2 := Blk.new (w.alloc (.cells (stC h sz nd (.slice A k c)).toArray 80)) 30 zS
  rw [show (w.alloc (.cells (stC h sz nd (.slice A k c)).toArray 80)).heap.size = w.heap.size + 1 by simp] at hb2
  have hkW := ((Keep.refl NoB w).alloc (.cells (stC h sz nd (.slice A k c)).toArray 80)).alloc (.cells zS 30)
  have HR := Lib.hid (hA.keep (hkW.drew) (fun _ _ _ h => h))
  clear hA
  go_enter Tryz.func52, Tryz.ntmps52
  go_wp2_with fail
  change Code.wp _ _ _ _ ((w.alloc (.cells (stC h sz nd (.slice A k c)).toArray 80)).alloc (.cells zS 30))
  generalize (w.alloc (.cells (stC h sz nd (.slice A k c)).toArray 80)).alloc (.cells zS 30) = W at hb1 hb2 hkW HR ⊢
  have x0 : W.cell? ⟨w.heap.size, 0, none⟩ = some (.int .u64 (h.cnt : Int)) := by rw [hb1.cell]; rfl
  have x1 : W.cell? ⟨w.heap.size, 1, none⟩ = some (.int .u64 h.byt) := by rw [hb1.cell]; rfl
  have x2 : W.cell? ⟨w.heap.size, 2, none⟩ = some (.int .u64 (h.fsq : Int)) := by rw [hb1.cell]; rfl
  have x3 : W.cell? ⟨w.heap.size, 3, none⟩ = some (.int .i64 h.ft) := by rw [hb1.cell]; rfl
  have x4 : W.cell? ⟨w.heap.size, 4, none⟩ = some (.int .u64 (h.n : Int)) := by rw [hb1.cell]; rfl
  have x5 : W.cell? ⟨w.heap.size, 5, none⟩ = some (.int .i64 h.lt) := by rw [hb1.cell]; rfl
  have x6 : W.cell? ⟨w.heap.size, 6, none⟩ = some (.int .i64 sz) := by rw [hb1.cell]; rfl
  have x8 : W.cell? ⟨w.heap.size, 8, none⟩ = some (.int .i64 nd) := by rw [hb1.cell]; rfl
  have x9 : W.cell? ⟨w.heap.size, 9, none⟩ = some (.slice A k c) := by rw [hb1.cell]; rfl
  have HB := Lib.hid (And.intro hb1 (And.intro hb2 hkW))
  clear hb1 hb2 hkW
  have mk : ∀ w1, Keep (fun k => k = w.heap.size + 1) W.drew w1 → (w1.cell? ⟨w.heap.size, 0, none⟩ = some (.int .u64 (h.cnt : Int)) ∧ w1.cell? ⟨w.heap.size, 1, none⟩ = some (.int .u64 h.byt) ∧ w1.cell? ⟨w.heap.size, 2, none⟩ = some (.int .u64 (h.fsq : Int)) ∧ w1.cell? ⟨w.heap.size, 3, none⟩ = some (.int .i64 h.ft) ∧ w1.cell? ⟨w.heap.size, 4, none⟩ = some (.int .u64 (h.n : Int)) ∧ w1.cell? ⟨w.heap.size, 5, none⟩ = some (.int .i64 h.lt) ∧ w1.cell? ⟨w.heap.size, 6, none⟩ = some (.int .i64 sz) ∧ w1.cell? ⟨w.heap.size, 8, none⟩ = some (.int .i64 nd) ∧ w1.cell? ⟨w.heap.size, 9, none⟩ = some (.slice A k c)) := by
    intro w1 hk1
    have hb := hk1.blk (show Blk W.drew _ _ _ from HB.out.1) (fun h => by omega)
    refine ⟨?_, ?_, ?_, ?_, ?_, ?_, ?_, ?_, ?_⟩ <;> (rw [hb.cell]; rfl)
  have MK := Lib.hid mk
  have KD := Lib.hid (Keep.refl (fun k => k = w.heap.size + 1) W.drew)
  clear mk
  go_region_held3 (fun w1 => w1.cell? ⟨w.heap.size, 0, none⟩ = some (.int .u64 (h.cnt : Int)) ∧ w1.cell? ⟨w.heap.size, 1, none⟩ = some (.int .u64 h.byt) ∧ w1.cell? ⟨w.heap.size, 2, none⟩ = some (.int .u64 (h.fsq : Int)) ∧ w1.cell? ⟨w.heap.size, 3, none⟩ = some (.int .i64 h.ft) ∧ w1.cell? ⟨w.heap.size, 4, none⟩ = some (.int .u64 (h.n : Int)) ∧ w1.cell? ⟨w.heap.size, 5, none⟩ = some (.int .i64 h.lt) ∧ w1.cell? ⟨w.heap.size, 6, none⟩ = some (.int .i64 sz) ∧ w1.cell? ⟨w.heap.size, 8, none⟩ = some (.int .i64 nd) ∧ w1.cell? ⟨w.heap.size, 9, none⟩ = some (.slice A k c))
    (first | with_reducible exact ⟨x0, x1, x2, x3, x4, x5, x6, x8, x9⟩ | with_reducible exact MK.out _ KD.out | with_reducible exact MK.out _ hk2 | (have hkk := ((((((((((keep1 w1 (w.heap.size + 1) 0 (.int .u64 (h.cnt : Int))).put rfl 1 (.int .u64 h.byt)).put rfl 2 (.int .u64 (h.fsq : Int))).put rfl 3 (.int .u64 (h.n : Int))).put rfl 4 (.int .i64 h.ft)).put rfl 5 (.int .i64 h.lt)).put rfl 6 (.int .i64 sz)).put rfl 7 (.int .i64 nd)).put rfl 8 (.slice A' n' c')).put rfl 9 (.int .u64 0)); have hk4 := hk2.trans hkk (fun _ _ e => e); have hk5 := MK.out _ hk4; exact hk5))
    ((refine step_append_u rfl (.const (.slice none 0 0)) (.tmp 20) rfl A k c zs (by rfl) (by rfl) HR.out hkc (by omega) ?_; intro A' n' c' w1 hk1; have hk2 : Keep (fun k => k = w.heap.size + 1) W.drew w1 := hk1.mono (fun _ _ e => e.elim); have hb2' := hk1.blk (show Blk W.drew _ _ _ from HB.out.2.1) (fun h => h); have g0 : w1.cell? ⟨w.heap.size + 1, 0, none⟩ = some (.int .u64 0) := (by rw [hb2'.cell]; rfl); have q0 := hb2'.frozen 0; have g1 : w1.cell? ⟨w.heap.size + 1, 1, none⟩ = some (.int .u64 0) := (by rw [hb2'.cell]; rfl); have q1 := hb2'.frozen 1; have g2 : w1.cell? ⟨w.heap.size + 1, 2, none⟩ = some (.int .u64 0) := (by rw [hb2'.cell]; rfl); have q2 := hb2'.frozen 2; have g3 : w1.cell? ⟨w.heap.size + 1, 3, none⟩ = some (.int .u64 0) := (by rw [hb2'.cell]; rfl); have q3 := hb2'.frozen 3; have g4 : w1.cell? ⟨w.heap.size + 1, 4, none⟩ = some (.int .i64 0) := (by rw [hb2'.cell]; rfl); have q4 := hb2'.frozen 4; have g5 : w1.cell? ⟨w.heap.size + 1, 5, none⟩ = some (.int .i64 0) := (by rw [hb2'.cell]; rfl); have q5 := hb2'.frozen 5; have g6 : w1.cell? ⟨w.heap.size + 1, 6, none⟩ = some (.int .i64 0) := (by rw [hb2'.cell]; rfl); have q6 := hb2'.frozen 6; have g7 : w1.cell? ⟨w.heap.size + 1, 7, none⟩ = some (.int .i64 0) := (by rw [hb2'.cell]; rfl); have q7 := hb2'.frozen 7; have g8 : w1.cell? ⟨w.heap.size + 1, 8, none⟩ = some (.slice none 0 0) := (by rw [hb2'.cell]; rfl); have q8 := hb2'.frozen 8; have g9 : w1.cell? ⟨w.heap.size + 1, 9, none⟩ = some (.int .u64 0) := (by rw [hb2'.cell]; rfl); have q9 := hb2'.frozen 9; clear hb2'))
  go_wp2
  have hb3 := (((((((((((hk1.blk (show Blk W.drew _ _ _ from HB.out.2.1) (fun h => h)).set_ 0 (.int .u64 (h.cnt : Int))).set_ 1 (.int .u64 h.byt)).set_ 2 (.int .u64 (h.fsq : Int))).set_ 3 (.int .u64 (h.n : Int))).set_ 4 (.int .i64 h.ft)).set_ 5 (.int .i64 h.lt)).set_ 6 (.int .i64 sz)).set_ 7 (.int .i64 nd)).set_ 8 (.slice A' n' c')).set_ 9 (.int .u64 0))
  have hk3 := ((((((((((keep1 w1 (w.heap.size + 1) 0 (.int .u64 (h.cnt : Int))).put rfl 1 (.int .u64 h.byt)).put rfl 2 (.int .u64 (h.fsq : Int))).put rfl 3 (.int .u64 (h.n : Int))).put rfl 4 (.int .i64 h.ft)).put rfl 5 (.int .i64 h.lt)).put rfl 6 (.int .i64 sz)).put rfl 7 (.int .i64 nd)).put rfl 8 (.slice A' n' c')).put rfl 9 (.int .u64 0))
  have hi30 : (Tryz.prog.info? 30).map (·.size) = some 10 := by kernel_rfl
  refine bodyPost_ret (v := .agg (sC h sz nd (.slice A' n' c')).toArray) (results_cell rfl _ _ _ (w.heap.size + 1) 0 rfl (sC h sz nd (.slice A' n' c')) _ ?_ Tryz.underlying30 rfl hi30) rfl ?_
  · have hr := hb3.rangeAt
    exact hr
  · exact ⟨A', n', c', rfl, (HB.out.2.2.drew.none_trans hk1).own (F := fun k => k = w.heap.size + 1) hk3 (fun k e => by omega)⟩

end Go.Proofs.YtmblkpjnafgplaaGreatDoor
