/- State, whatever was taken out. -/
import Derived.Test.YtmblkpjnafgplaaGreatDoorRRn
namespace Go.Proofs.YtmblkpjnafgplaaGreatDoor
open Go Go.RowKit
set_option maxRecDepth 100000
set_option linter.unusedVariables false
set_option linter.unusedSimpArgs false

set_option maxHeartbeats 4000000 in
theorem state0b_any (w : World) (ms : Nat) (h : Hd) (its : List Item) (M : List Ent) (F : List Nat) (S : StoreAt w ms h its M F) (h0 : h.l0 = 0) (h4 : h.l4 = 0) (hne : 0 < h.n) (hc : h.cnt = h.n - h.fsq + 1) (hf : h.fsq ≤ h.n) :
    Calls Tryz.prog 53 #[.pointer (some ⟨ms, 0, none⟩)] w fun e w' => ∃ sz, e = .returned (.agg (stC h sz 0 (.slice none 0 0)).toArray) ∧ StoreAt w' ms h its M F ∧ Keep (fun k => k = ms) w w' := by
  have hl := hd_wlock ((S.hd.alloc (.cells #[.pointer (some ⟨ms, 0, none⟩)] 50)).alloc (.cells zSt 80)) h0 h4
  have hms := S.hd.lt
  have HS := Lib.hid S
  clear S
  have hb1 := (Blk.new w 50 #[.pointer (some ⟨ms, 0, none⟩)]).alloc (.cells zSt 80)
  have hb2 := Blk.new (w.alloc (.cells #[.pointer (some ⟨ms, 0, none⟩)] 50)) 80 zSt
  rw [show (w.alloc (.cells #[.pointer (some ⟨ms, 0, none⟩)] 50)).heap.size = w.heap.size + 1 by simp] at hb2
  have hkW := ((Keep.refl NoB w).alloc (.cells #[.pointer (some ⟨ms, 0, none⟩)] 50)).alloc (.cells zSt 80)
  have HB := Lib.hid (And.intro hb1 (And.intro hb2 hkW))
  clear hb1 hb2 hkW
  go_enter_defers Tryz.func53, Tryz.ntmps53
  go_wp2_with fail
  refine hl.mono ?_
  rintro e w1 ⟨rfl, hm1, hk1⟩
  have k1 := hk1.blk HB.out.1 (fun e => by omega)
  have k2 := hk1.blk HB.out.2.1 (fun e => by omega)
  have i0 : w1.cell? ⟨w.heap.size, 0, none⟩ = some (.pointer (some ⟨ms, 0, none⟩)) := by rw [k1.cell]; rfl
  have c14 : w1.cell? ⟨ms, 14, none⟩ = some (.int .u64 (h.cnt : Int)) := by rw [hm1.cell]; rfl
  have c15 : w1.cell? ⟨ms, 15, none⟩ = some (.int .u64 h.byt) := by rw [hm1.cell]; rfl
  have c16 : w1.cell? ⟨ms, 16, none⟩ = some (.int .u64 (h.fsq : Int)) := by rw [hm1.cell]; rfl
  have c17 : w1.cell? ⟨ms, 17, none⟩ = some (.int .i64 h.ft) := by rw [hm1.cell]; rfl
  have c18 : w1.cell? ⟨ms, 18, none⟩ = some (.int .u64 (h.n : Int)) := by rw [hm1.cell]; rfl
  have c19 : w1.cell? ⟨ms, 19, none⟩ = some (.int .i64 h.lt) := by rw [hm1.cell]; rfl
  have c20 : w1.cell? ⟨ms, 20, none⟩ = some (.int .i64 0) := by rw [hm1.cell]; rfl
  have c21 : w1.cell? ⟨ms, 21, none⟩ = some (.map none) := by rw [hm1.cell]; rfl
  have c22 : w1.cell? ⟨ms, 22, none⟩ = some (.int .i64 0) := by rw [hm1.cell]; rfl
  have c23 : w1.cell? ⟨ms, 23, none⟩ = some (.slice none 0 0) := by rw [hm1.cell]; rfl
  have c24 : w1.cell? ⟨ms, 24, none⟩ = some (.int .i64 0) := by rw [hm1.cell]; rfl
  have c26 : w1.cell? ⟨ms, 26, none⟩ = some (.pointer (some ⟨h.tb, 0, none⟩)) := by rw [hm1.cell]; rfl
  have H1 := Lib.hid (And.intro hm1 (And.intro hk1 (And.intro k1 k2)))
  have z1 : w.heap.size < w1.heap.size := k1.lt
  have z2 : w.heap.size + 1 < w1.heap.size := k2.lt
  have z3 : ms < w1.heap.size := hm1.lt
  obtain ⟨sz, ct, z4⟩ : ∃ sz, w1.cell? ⟨h.tb, 1, none⟩ = some (.int .i64 sz) ∧ h.tb < w1.heap.size := by
    obtain ⟨root, hr, _⟩ := HS.out.tree
    have hr1 := hk1.blk (HB.out.2.2.blk hr (fun h => h)) (fun e => HS.out.dis2.2.1 e.symm)
    exact ⟨_, by rw [hr1.cell]; rfl, hr1.lt⟩
  have HE := Lib.hid (And.intro hc (And.intro trivial (And.intro h0 h4)))
  have hc1 : (h.cnt : Int) ≤ (h.n : Int) - (h.fsq : Int) + 1 := by omega
  have hc2 : (h.n : Int) - (h.fsq : Int) + 1 ≤ (h.cnt : Int) := by omega
  have hn30 := HS.out.few
  clear hm1 hk1 k1 k2 hl hc h0 h4
  go_wp2_with fail
  have hb3 : Blk (w1.alloc (.cells (stC h 0 0 (.slice none 0 0)).toArray 80)) w1.heap.size 80 (stC h 0 0 (.slice none 0 0)).toArray := Blk.new w1 80 _
  have hk3 := (Keep.refl NoB w1).alloc (.cells (stC h 0 0 (.slice none 0 0)).toArray 80)
  change Calls Tryz.prog 64 _ (w1.alloc (.cells (stC h 0 0 (.slice none 0 0)).toArray 80)) _
  generalize w1.alloc (.cells (stC h 0 0 (.slice none 0 0)).toArray 80) = W3 at hb3 hk3 ⊢
  have y0 : W3.cell? ⟨w1.heap.size, 0, none⟩ = some (.int .u64 (h.cnt : Int)) := by rw [hb3.cell]; rfl
  have y2 : W3.cell? ⟨w1.heap.size, 2, none⟩ = some (.int .u64 (h.fsq : Int)) := by rw [hb3.cell]; rfl
  have y4 : W3.cell? ⟨w1.heap.size, 4, none⟩ = some (.int .u64 (h.n : Int)) := by rw [hb3.cell]; rfl
  have y6 : W3.cell? ⟨w1.heap.size, 6, none⟩ = some (.int .i64 0) := by rw [hb3.cell]; rfl
  have y9 : W3.cell? ⟨w1.heap.size, 9, none⟩ = some (.slice none 0 0) := by rw [hb3.cell]; rfl
  have f6 := hb3.frozen 6
  have f9 := hb3.frozen 9
  have TL := Lib.hid (st_tail sz 0 (.slice none 0 0) rfl (hk3.blk H1.out.2.2.2 (fun h => h)) ((hb3.set_ 6 (.int .i64 sz)).set_ 9 (.slice none 0 0)) ((keep1 W3 w1.heap.size 6 (.int .i64 sz)).put rfl 9 (.slice none 0 0)) (by omega))
  refine (size_any h.tb sz _ (hk3.cellS ct (fun h => h))).mono ?_
  rintro e w4 ⟨rfl, rfl⟩
  have H3 := Lib.hid (And.intro hb3 hk3)
  clear hb3 hk3 ct i0 c14 c15 c16 c17 c18 c19 c20 c21 c22 c23 c24 c26
  have hi80 : (Tryz.prog.info? 80).map (·.size) = some 11 := by kernel_rfl
  go_wp2_with (first | (refine wpList_load_mid rfl 80 (.tmp 3) rfl w1.heap.size 0 rfl (stC h sz 0 (.slice none 0 0)) _ TL.out.1 Tryz.underlying80 rfl hi80 ?_) | (refine wpList_store_mid rfl 80 (.tmp 2) (.tmp 57) rfl (w.heap.size + 1) 0 (stC h sz 0 (.slice none 0 0)).toArray rfl rfl TL.out.2.1 hi80 TL.out.2.2.1 ?_) | fail)
  have hmW : Blk (((w4.setCell ⟨w1.heap.size, 6, none⟩ (.int .i64 sz)).setCell ⟨w1.heap.size, 9, none⟩ (.slice none 0 0)).setCells (w.heap.size + 1) 0 (stC h sz 0 (.slice none 0 0))) ms 87 ({ h with l0 := 1, l4 := -1073741824 } : Hd).cells :=
    TL.out.2.2.2.2.blk ((((H3.out.2.blk H1.out.1 (fun h => h)).far (p := ⟨w1.heap.size, 6, none⟩) (by simp only; omega) _).far (p := ⟨w1.heap.size, 9, none⟩) (by simp only; omega) _)) (fun e => by omega)
  refine leaves_cons (f := 62) (args := #[.pointer (some ⟨ms, 0, none⟩)]) (by simp) (by simp [go_sem]) ?_
  refine (hd_wunlock_d hmW rfl rfl .returning).mono ?_
  rintro e u' w5 ⟨rfl, rfl, hm5, hk5⟩
  have hr5 := (hk5.blk TL.out.2.2.2.1 (fun e => by omega)).rangeAt
  refine ⟨_, results_cell rfl _ _ _ (w.heap.size + 1) 0 rfl (stC h sz 0 (.slice none 0 0)) _ hr5 Tryz.underlying80 rfl hi80, sz, rfl, ?_⟩
  obtain ⟨hc, hd, h0, h4⟩ := HE.out
  have kA : Keep (fun k => k = ms) w w1 := HB.out.2.2.none_trans' H1.out.2.1
  have kB : Keep NoB w1 (((w4.setCell ⟨w1.heap.size, 6, none⟩ (.int .i64 sz)).setCell ⟨w1.heap.size, 9, none⟩ (.slice none 0 0))) :=
    H3.out.2.own (F := fun k => k = w1.heap.size) ((keep1 w4 w1.heap.size 6 (.int .i64 sz)).put rfl 9 (.slice none 0 0)) (fun k e => by omega)
  have kC : Keep (fun k => k = ms) w (((w4.setCell ⟨w1.heap.size, 6, none⟩ (.int .i64 sz)).setCell ⟨w1.heap.size, 9, none⟩ (.slice none 0 0)).setCells (w.heap.size + 1) 0 (stC h sz 0 (.slice none 0 0))) :=
    (kA.none_trans kB).trans TL.out.2.2.2.2 (fun k hk e => by omega)
  have kD := kC.trans hk5 (fun _ _ e => e)
  have hm6 : Blk w5 ms 87 h.lk.un.cells := hm5
  rw [Hd.lk_un h0 h4] at hm6
  exact ⟨HS.out.turn kD hm6 ⟨rfl, rfl, rfl, rfl, rfl, rfl, rfl, rfl, rfl, rfl⟩, kD⟩


theorem nat_nodup_le' : ∀ {l r : List Nat}, l.Nodup → (∀ x ∈ l, x ∈ r) → l.length ≤ r.length
  | [], _, _, _ => by simp
  | x :: l, r, hn, h => by
    have hx := h x (by simp)
    obtain ⟨a, b, rfl⟩ := List.append_of_mem hx
    have := nat_nodup_le' (l := l) (r := a ++ b) (List.nodup_cons.1 hn).2 (fun y hy => by
      have h1 := h y (List.mem_cons_of_mem _ hy)
      rcases List.mem_append.1 h1 with h2 | h2
      · exact List.mem_append.2 (.inl h2)
      · rcases List.mem_cons.1 h2 with rfl | h2
        · exact absurd hy (List.nodup_cons.1 hn).1
        · exact List.mem_append.2 (.inr h2))
    simp only [List.length_cons, List.length_append] at this ⊢
    omega

theorem nodup_le' {l : List Nat} (h : l.Nodup) {n : Nat} (hx : ∀ x ∈ l, x < n) : l.length ≤ n := by
  have := nat_nodup_le' (r := List.range n) h (fun x h => List.mem_range.2 (hx x h))
  simpa using this

theorem ownsRow_base {w : World} {b b' E size n : Nat} {v : Value} {xs : List Value} (h : w.ownsRow b E size v n xs) (hb : b' ≤ b) : w.ownsRow b' E size v n xs :=
  ⟨h.1, h.2.imp id (fun ⟨g, cap, cur, e, h1, h2⟩ => ⟨g, cap, cur, e, Nat.le_trans hb h1, h2⟩)⟩

theorem range_blk {b o nb : Nat} {f : Value} {w : World} {R : World → Prop} (h : w.cell? ⟨b, o, none⟩ = some (.pointer (some ⟨nb, 0, none⟩))) (hit : Calls Tryz.prog 168 #[.pointer (some ⟨nb, 0, none⟩), f] w fun e w' => e = .returned (.bool true) ∧ R w') :
    Calls Tryz.prog 104 #[.pointer (some ⟨b, o, none⟩), f] w fun e w' => e = .returned (.tuple #[]) ∧ R w' := by
  have HH := Lib.hid hit
  clear hit
  go_enter Tryz.func104, Tryz.ntmps104
  go_wp2_with fail
  refine HH.out.mono ?_
  rintro e w1 ⟨rfl, hr⟩
  have HR := Lib.hid hr
  clear hr
  go_wp2_with fail
  go_end0
  exact ⟨rfl, HR.out⟩

section
variable {w : World} {ops : Array Oper} {rest : List Oper} {o : Oper} {a : Act} {Q : Exit → Act → World → Prop}
theorem wpList_make28 (hg : o.guard = none) (x y : Operand) (hop : o.op = .makeSlice 28 x y) (c : Nat) (ci : Int) (hx : a.eval x = .int .i64 0) (hy : a.eval y = .int .i64 ci) (hci : ci = (c : Int)) (hc : c ≤ 1000)
    (hgo : ∀ w', w'.ownsRow w.heap.size 25 1 (.slice (some ⟨w.heap.size, 0, none⟩) 0 c) 0 [] → Keep NoB w w' → wpList Tryz.prog ops Q rest (a.put o.dst (.slice (some ⟨w.heap.size, 0, none⟩) 0 c)) w') :
    wpList Tryz.prog ops Q (o :: rest) a w := by
  subst hci
  refine wpList_plain hg fun K hK' => ?_
  obtain ⟨i, z, hi, hz, hsz, hzs, hby, _⟩ := info25
  obtain ⟨w', hrun, r1, r2⟩ := run_make_own (P := Tryz.prog) w w.heap.size 28 25 i z 1 Tryz.underlying28 hi hz hsz .i64 .i64 c (by have := Nat.mul_le_mul hc hby; first | omega | (rw [Nat.mul_comm]; omega) | (simp only [hsz]; omega)) (by unfold maxLen; omega) (Nat.le_refl _)
  unfold Oper.wp
  simp [execOp, hop, hx, hy, hrun, Result.andThen]
  exact hK' _ _ (hgo w' r1 ⟨r2.os, r2.tape, r2.output, r2.size, fun k hk _ => r2.block k hk (by simp)⟩)
end

set_option maxHeartbeats 4000000 in
theorem state2_any (w : World) (ms : Nat) (h : Hd) (its : List Item) (M : List Ent) (F : List Nat) (S : StoreAt w ms h its M F) (h0 : h.l0 = 0) (h4 : h.l4 = 0) (hf : h.fsq ≤ h.n) (hc : h.cnt + h.fsq ≤ h.n) (hT : Tab w) :
    Calls Tryz.prog 53 #[.pointer (some ⟨ms, 0, none⟩)] w fun e w' => ∃ (sz nd : Int) (A : Option Addr) (c : Nat) (zs : List Nat), e = .returned (.agg (stC h sz nd (.slice A zs.length c)).toArray) ∧ RowAt w' 1 A zs.length (zs.map u64V) ∧ zs.length ≤ c ∧ zs.length ≤ 31 ∧ StoreAt w' ms h its M F ∧ Keep (fun k => k = ms) w w' := by
  have hl := hd_wlock ((S.hd.alloc (.cells #[.pointer (some ⟨ms, 0, none⟩)] 50)).alloc (.cells zSt 80)) h0 h4
  have hms := S.hd.lt
  have HS := Lib.hid S
  clear S
  have hb1 := (Blk.new w 50 #[.pointer (some ⟨ms, 0, none⟩)]).alloc (.cells zSt 80)
  have hb2 := Blk.new (w.alloc (.cells #[.pointer (some ⟨ms, 0, none⟩)] 50)) 80 zSt
  rw [show (w.alloc (.cells #[.pointer (some ⟨ms, 0, none⟩)] 50)).heap.size = w.heap.size + 1 by simp] at hb2
  have hkW := ((Keep.refl NoB w).alloc (.cells #[.pointer (some ⟨ms, 0, none⟩)] 50)).alloc (.cells zSt 80)
  have HB := Lib.hid (And.intro hb1 (And.intro hb2 hkW))
  clear hb1 hb2 hkW
  have HE := Lib.hid (And.intro hc (And.intro hf (And.intro h0 (And.intro h4 hT))))
  clear h0 h4 hT
  go_enter_defers Tryz.func53, Tryz.ntmps53
  go_wp2_with fail
  refine hl.mono ?_
  rintro e w1 ⟨rfl, hm1, hk1⟩
  have k1 := hk1.blk HB.out.1 (fun e => by omega)
  have k2 := hk1.blk HB.out.2.1 (fun e => by omega)
  have i0 : w1.cell? ⟨w.heap.size, 0, none⟩ = some (.pointer (some ⟨ms, 0, none⟩)) := by rw [k1.cell]; rfl
  have c14 : w1.cell? ⟨ms, 14, none⟩ = some (.int .u64 (h.cnt : Int)) := by rw [hm1.cell]; rfl
  have c15 : w1.cell? ⟨ms, 15, none⟩ = some (.int .u64 h.byt) := by rw [hm1.cell]; rfl
  have c16 : w1.cell? ⟨ms, 16, none⟩ = some (.int .u64 (h.fsq : Int)) := by rw [hm1.cell]; rfl
  have c17 : w1.cell? ⟨ms, 17, none⟩ = some (.int .i64 h.ft) := by rw [hm1.cell]; rfl
  have c18 : w1.cell? ⟨ms, 18, none⟩ = some (.int .u64 (h.n : Int)) := by rw [hm1.cell]; rfl
  have c19 : w1.cell? ⟨ms, 19, none⟩ = some (.int .i64 h.lt) := by rw [hm1.cell]; rfl
  have c20 : w1.cell? ⟨ms, 20, none⟩ = some (.int .i64 0) := by rw [hm1.cell]; rfl
  have c21 : w1.cell? ⟨ms, 21, none⟩ = some (.map none) := by rw [hm1.cell]; rfl
  have c22 : w1.cell? ⟨ms, 22, none⟩ = some (.int .i64 0) := by rw [hm1.cell]; rfl
  have c23 : w1.cell? ⟨ms, 23, none⟩ = some (.slice none 0 0) := by rw [hm1.cell]; rfl
  have c24 : w1.cell? ⟨ms, 24, none⟩ = some (.int .i64 0) := by rw [hm1.cell]; rfl
  have c26 : w1.cell? ⟨ms, 26, none⟩ = some (.pointer (some ⟨h.tb, 0, none⟩)) := by rw [hm1.cell]; rfl
  have H1 := Lib.hid (And.intro hm1 (And.intro hk1 (And.intro k1 k2)))
  have z1 : w.heap.size < w1.heap.size := k1.lt
  have z2 : w.heap.size + 1 < w1.heap.size := k2.lt
  have z3 : ms < w1.heap.size := hm1.lt
  obtain ⟨sz, ct, z4⟩ : ∃ sz, w1.cell? ⟨h.tb, 1, none⟩ = some (.int .i64 sz) ∧ h.tb < w1.heap.size := by
    obtain ⟨root, hr, _⟩ := HS.out.tree
    have hr1 := hk1.blk (HB.out.2.2.blk hr (fun h => h)) (fun e => HS.out.dis2.2.1 e.symm)
    exact ⟨_, by rw [hr1.cell]; rfl, hr1.lt⟩
  clear hm1 hk1 k1 k2 hl
  go_wp2_with fail
  have hb3 : Blk (w1.alloc (.cells (stC h 0 0 (.slice none 0 0)).toArray 80)) w1.heap.size 80 (stC h 0 0 (.slice none 0 0)).toArray := Blk.new w1 80 _
  have hk3 := (Keep.refl NoB w1).alloc (.cells (stC h 0 0 (.slice none 0 0)).toArray 80)
  change Calls Tryz.prog 64 _ (w1.alloc (.cells (stC h 0 0 (.slice none 0 0)).toArray 80)) _
  generalize w1.alloc (.cells (stC h 0 0 (.slice none 0 0)).toArray 80) = W3 at hb3 hk3 ⊢
  have y0 : W3.cell? ⟨w1.heap.size, 0, none⟩ = some (.int .u64 (h.cnt : Int)) := by rw [hb3.cell]; rfl
  have y2 : W3.cell? ⟨w1.heap.size, 2, none⟩ = some (.int .u64 (h.fsq : Int)) := by rw [hb3.cell]; rfl
  have y4 : W3.cell? ⟨w1.heap.size, 4, none⟩ = some (.int .u64 (h.n : Int)) := by rw [hb3.cell]; rfl
  have y6 : W3.cell? ⟨w1.heap.size, 6, none⟩ = some (.int .i64 0) := by rw [hb3.cell]; rfl
  have y9 : W3.cell? ⟨w1.heap.size, 9, none⟩ = some (.slice none 0 0) := by rw [hb3.cell]; rfl
  have f6 := hb3.frozen 6
  have f9 := hb3.frozen 9
  have z5 : w1.heap.size < W3.heap.size := hb3.lt
  refine (size_any h.tb sz _ (hk3.cellS ct (fun h => h))).mono ?_
  rintro e w4 ⟨rfl, rfl⟩
  have H3 := Lib.hid (And.intro hb3 hk3)
  clear hb3 hk3 ct i0 c14 c15 c16 c17 c18 c19 c20 c21 c22 c23 c24 c26
  have hi80 : (Tryz.prog.info? 80).map (·.size) = some 11 := by kernel_rfl
  have hmf : ∀ (fn : Fn) (first cap : Array Value) (w : World), (Instr.makeFunc fn first cap).run Tryz.prog w = .ok (.func fn first cap) w := fun _ _ _ _ => rfl
  have p0 : (0 : Int) ≤ (h.fsq : Int) := Int.natCast_nonneg _
  have p1 : (h.fsq : Int) ≤ (h.n : Int) := by omega
  have p2 : (h.n : Int) ≤ 30 := by have := HS.out.few; omega
  have p3 : (h.cnt : Int) ≤ (h.n : Int) - (h.fsq : Int) := by omega
  have p4 : (0 : Int) ≤ (h.cnt : Int) := Int.natCast_nonneg _
  have hci : (h.n : Int) - (h.fsq : Int) + 1 - (h.cnt : Int) = ((h.n - h.fsq + 1 - h.cnt : Nat) : Int) := by omega
  have hcn : h.n - h.fsq + 1 - h.cnt ≤ 31 := by omega
  go_wp2_with (first | (refine wpList_make28 rfl _ _ rfl (h.n - h.fsq + 1 - h.cnt) _ rfl (by rfl) rfl (by omega) ?_; intro w5 hrow hk5; have hb5 := hk5.blk ((H3.out.1.set_ 6 (.int .i64 sz)).set_ 9 (.slice none 0 0)) (fun h => h); have u9 : w5.cell? ⟨w1.heap.size, 9, none⟩ = some (.slice none 0 0) := (by rw [hb5.cell]; rfl); have e9 := hb5.frozen 9; have H5 := Lib.hid (And.intro hrow (And.intro hk5 hb5)); clear hrow hk5 hb5 y9 f9) | fail)
  have hb6' : Blk (w5.setCell ⟨w1.heap.size, 9, none⟩ (.slice (some ⟨w4.heap.size, 0, none⟩) 0 (h.n - h.fsq + 1 - h.cnt))) w1.heap.size 80 (stC h sz 0 (.slice (some ⟨w4.heap.size, 0, none⟩) 0 (h.n - h.fsq + 1 - h.cnt))).toArray := H5.out.2.2.set_ 9 _
  have hz4 : w1.heap.size < w4.heap.size := z5
  have hr0 : w5.ownsRow (w1.heap.size + 1) 25 1 (.slice (some ⟨w4.heap.size, 0, none⟩) 0 (h.n - h.fsq + 1 - h.cnt)) 0 [] := ownsRow_base (by simpa using H5.out.1) hz4
  have hr6 := ownsRow_keep hr0 (keep1 w5 w1.heap.size 9 (.slice (some ⟨w4.heap.size, 0, none⟩) 0 (h.n - h.fsq + 1 - h.cnt))) (fun g C hg e => H5.out.2.2.ne_ (e ▸ hg) (by decide) rfl)
  have hk6 : Keep NoB w1 (w5.setCell ⟨w1.heap.size, 9, none⟩ (.slice (some ⟨w4.heap.size, 0, none⟩) 0 (h.n - h.fsq + 1 - h.cnt))) :=
    (H3.out.2.own (F := fun k => k = w1.heap.size) ((((keep1 w4 w1.heap.size 6 (.int .i64 sz)).put rfl 9 (.slice none 0 0)).none_trans H5.out.2.1).put rfl 9 (.slice (some ⟨w4.heap.size, 0, none⟩) 0 (h.n - h.fsq + 1 - h.cnt))) (fun k e => by omega))
  have hl6 : w4.heap.size < (w5.setCell ⟨w1.heap.size, 9, none⟩ (.slice (some ⟨w4.heap.size, 0, none⟩) 0 (h.n - h.fsq + 1 - h.cnt))).heap.size := by
    rcases hr6.2 with ⟨e3, _⟩ | ⟨g, cap, cur, e3, _, hgg, _⟩
    · cases e3
    · injection e3 with e3; injection e3 with e3; injection e3 with e3
      have hgl := (Array.getElem?_eq_some_iff.1 hgg).1
      omega
  generalize w5.setCell ⟨w1.heap.size, 9, none⟩ (.slice (some ⟨w4.heap.size, 0, none⟩) 0 (h.n - h.fsq + 1 - h.cnt)) = W6 at hb6' hr6 hk6 hl6 ⊢
  generalize w4.heap.size = B6 at hb6' hr6 hl6 hz4 ⊢
  have y2 : W6.cell? ⟨w1.heap.size, 2, none⟩ = some (.int .u64 (h.fsq : Int)) := by rw [hb6'.cell]; rfl
  have y4 : W6.cell? ⟨w1.heap.size, 4, none⟩ = some (.int .u64 (h.n : Int)) := by rw [hb6'.cell]; rfl
  have H6 := Lib.hid (And.intro hb6' (And.intro hk6 hr6))
  have z6 := hb6'.lt
  have hAB : ∀ a b : Value, Blk ((W6.alloc (.cells #[a] 25)).alloc (.cells #[b] 25)) W6.heap.size 25 #[a] ∧ Blk ((W6.alloc (.cells #[a] 25)).alloc (.cells #[b] 25)) (W6.heap.size + 1) 25 #[b] ∧ Keep NoB W6 (((W6.alloc (.cells #[a] 25)).alloc (.cells #[b] 25)).drew) := fun a b => by
    have h2 := Blk.new (W6.alloc (.cells #[a] 25)) 25 #[b]
    rw [show (W6.alloc (.cells #[a] 25)).heap.size = W6.heap.size + 1 by simp] at h2
    exact ⟨(Blk.new W6 25 #[a]).alloc _, h2, (((Keep.refl NoB W6).alloc _).alloc _).drew⟩
  have HAB := Lib.hid hAB
  clear hb6' hk6 hr6 hr0 hAB e9 u9 z5
  go_cut [5, 6] from 40 to 43 (fun v5 v6 wx => ∃ b5 b6, v5 = .pointer (some ⟨b5, 0, none⟩) ∧ v6 = .pointer (some ⟨b6, 0, none⟩) ∧ Blk wx b5 25 #[.int .u64 (h.fsq : Int)] ∧ Blk wx b6 25 #[.int .u64 (h.n : Int)] ∧ W6.heap.size ≤ b5 ∧ W6.heap.size ≤ b6 ∧ Keep NoB W6 wx)
  case first =>
    go_region
    all_goals
      go_wp2_with fail
      go_meet
      first
        | exact ⟨W6.heap.size, W6.heap.size + 1, rfl, rfl, (HAB.out _ _).1, (HAB.out _ _).2.1, Nat.le_refl _, Nat.le_succ _, (HAB.out _ _).2.2⟩
        | exact ⟨W6.heap.size + 1, W6.heap.size, rfl, rfl, (HAB.out _ _).2.1, (HAB.out _ _).1, Nat.le_succ _, Nat.le_refl _, (HAB.out _ _).2.2⟩
  case rest =>
    obtain ⟨b5, b6, rfl, rfl, h5, h6, l5, l6, hcut⟩ := hcut
    have hb7 := hcut.blk H6.out.1 (fun h => h)
    have k17 := H6.out.2.1.none_trans hcut
    have hm7 := k17.blk H1.out.1 (fun h => h)
    have i0 : wc.cell? ⟨w.heap.size, 0, none⟩ = some (.pointer (some ⟨ms, 0, none⟩)) := by rw [(k17.blk H1.out.2.2.1 (fun h => h)).cell]; rfl
    have g0 : GoT wc wc w1.heap.size b5 b6 h.fsq h.n h sz (.slice (some ⟨B6, 0, none⟩) 0 (h.n - h.fsq + 1 - h.cnt)) [] :=
      ⟨hb7, ownsRow_keep H6.out.2.2 hcut (fun _ _ _ h => h), fun k hk => by simp only [Value.ownBlock, Option.some.injEq] at hk; have := hcut.size; omega, h5, h6, Keep.refl _ _⟩
    have kW : Keep (fun k => k = ms) w wc := (HB.out.2.2.none_trans' H1.out.2.1).none_trans k17
    have hrange : Calls Tryz.prog 104 #[.pointer (some ⟨ms, 27, none⟩), .func (Fn.func 105) #[] #[.pointer (some ⟨b5, 0, none⟩), .pointer (some ⟨b6, 0, none⟩), .pointer (some ⟨w.heap.size, 0, none⟩), .pointer (some ⟨w1.heap.size, 0, none⟩)]] wc fun e w' => e = .returned (.tuple #[]) ∧ ∃ v zs, GoT wc w' w1.heap.size b5 b6 h.fsq h.n h sz v zs ∧ zs.length ≤ 31 := by
      rcases HS.out.dm with ⟨e0, _⟩ | ⟨nb, B, e0, hnb, hBl, hX⟩
      · exact (range_nil ⟨ms, 27, none⟩ _ wc (by rw [hm7.cell, ← e0]; rfl)).mono (fun e w' ⟨h1, h2⟩ => ⟨h1, .slice (some ⟨B6, 0, none⟩) 0 (h.n - h.fsq + 1 - h.cnt), [], by rw [h2]; exact g0, by simp⟩)
      · have hnbm : nb ≠ ms := (HS.out.dis3 nb e0).1
        have hnl := hnb.lt
        have hnb7 := kW.blk hnb hnbm
        have hT7 : Tab wc := fun j hj => by
          have hc := HE.out.2.2.2.2 j hj
          have h13 : 13 ≠ ms := fun e => by
            subst e
            have h33 := HS.out.hd.cell j
            rw [hc] at h33
            have : j < 33 := by
              rcases Nat.lt_or_ge j 33 with h | h
              · exact h
              · rw [Array.getElem?_eq_none (by simpa using h)] at h33; cases h33
            have hc0 := HE.out.2.2.2.2 0 (by decide)
            rw [HS.out.hd.cell 0] at hc0
            cases hc0
          exact kW.cellS hc h13
        refine (range_blk (nb := nb) (R := fun w' => ∃ v zs, GoT wc w' w1.heap.size b5 b6 h.fsq h.n h sz v zs ∧ zs.length ≤ 31) (by rw [hm7.cell, ← e0]; rfl) ?_)
        have hit := iter_any (I := fun B' w' => ∃ v zs, GoT wc w' w1.heap.size b5 b6 h.fsq h.n h sz v zs ∧ zs.Nodup ∧ ∀ z ∈ zs, z ≤ 30 ∧ B'.testBit z = false) (nb := nb) (B := B) (w := wc) (p1 := .pointer (some ⟨b5, 0, none⟩)) (p2 := .pointer (some ⟨b6, 0, none⟩)) (p3 := .pointer (some ⟨w.heap.size, 0, none⟩)) (p4 := .pointer (some ⟨w1.heap.size, 0, none⟩))
          (fun B' w' ⟨v, zs, g, _⟩ => ⟨g.keep.blk hnb7 (fun hx => by have := HB.out.2.2.size; have := z1; omega), fun j hj => g.keep.cellS (hT7 j hj) (fun hx => by
            have h13 := HE.out.2.2.2.2 j hj
            have := World.block_lt_of_cell? w _ h13
            simp only at this hx
            omega)⟩) hBl (fun w' k B' ⟨v, zs, g, hnd, hzs⟩ hk hBk hB'k hB2 => by
            have hXk := (hX k).1 hBk
            have hfew := HS.out.few
            have hzl : zs.length ≤ 31 := nodup_le' hnd (fun z hz => by have := (hzs z hz).1; omega)
            refine (clos_any g (by omega) (by omega) hXk.2.1 (by omega) (by omega) (by omega)).mono ?_
            rintro e w'' ⟨rfl, v', g'⟩
            refine ⟨rfl, v', zs ++ [k], g', List.nodup_append.2 ⟨hnd, by simp, fun a ha b hb => ?_⟩, fun z hz => ?_⟩
            · rw [List.mem_singleton] at hb
              subst hb
              rintro rfl
              rw [(hzs a ha).2] at hB'k
              cases hB'k
            · rcases List.mem_append.1 hz with hz | hz
              · refine ⟨(hzs z hz).1, ?_⟩
                rw [Nat.testBit_and, (hzs z hz).2, Bool.false_and]
              · rw [List.mem_singleton] at hz
                subst hz
                exact ⟨by omega, hB2⟩) ⟨_, [], g0, List.nodup_nil, fun z hz => by cases hz⟩
        refine hit.mono ?_
        rintro e w' ⟨rfl, B', v, zs, g, hnd, hzs⟩
        exact ⟨rfl, v, zs, g, nodup_le' hnd (fun z hz => by have := (hzs z hz).1; omega)⟩
    have HR := Lib.hid hrange
    have H7 := Lib.hid (And.intro hm7 k17)
    clear hcut hb7 k17 hm7 y2 y4 g0 hrange h5 h6 kW
    go_wp2_with fail
    refine HR.out.mono ?_
    rintro e w8 ⟨rfl, v, zs, g, hzl⟩
    obtain ⟨A, c', rfl, hnc, hcm, hra, hbk⟩ := ownsRow_row g.own
    have y9' : w8.cell? ⟨w1.heap.size, 9, none⟩ = some (.slice A zs.length c') := by rw [g.st.cell]; rfl
    have y8' : w8.cell? ⟨w1.heap.size, 8, none⟩ = some (.int .i64 0) := by rw [g.st.cell]; rfl
    have f8' := g.st.frozen 8
    have h2' := g.keep.blk (H7.out.2.blk H1.out.2.2.2 (fun h => h)) (fun hx => by omega)
    have TL0 := Lib.hid (st_tail (h := h) sz 0 (.slice A zs.length c') rfl h2' g.st (Keep.refl (fun k => k = w1.heap.size) w8) (by omega))
    have TL1 := Lib.hid (st_tail (h := h) sz (zs.length : Int) (.slice A zs.length c') rfl h2' (g.st.set_ 8 (.int .i64 (zs.length : Int))) (keep1 w8 w1.heap.size 8 (.int .i64 (zs.length : Int))) (by omega))
    have hm8 := g.keep.blk H7.out.1 (fun hx => by omega)
    have kA : Keep (fun k => k = ms) w w8 := ((HB.out.2.2.none_trans' H1.out.2.1).none_trans H7.out.2).trans g.keep (fun k hk hx => by omega)
    have H8 := Lib.hid (And.intro g (And.intro hm8 (And.intro kA (And.intro hra (And.intro hbk hnc)))))
    clear g hm8 kA hra hbk hnc h2' hcm
    by_cases hz0 : zs.length = 0
    · have hz0' : ¬ (0 : Int) < (zs.length : Int) := by omega
      go_wp2_with (first | (refine wpList_load_mid rfl 80 (.tmp 3) rfl w1.heap.size 0 rfl (stC h sz 0 (.slice A zs.length c')) _ TL0.out.1 Tryz.underlying80 rfl hi80 ?_) | (refine wpList_store_mid rfl 80 (.tmp 2) (.tmp 57) rfl (w.heap.size + 1) 0 (stC h sz 0 (.slice A zs.length c')).toArray rfl rfl TL0.out.2.1 hi80 TL0.out.2.2.1 ?_) | fail)
      have hm9 : Blk w8 ms 87 _ := H8.out.2.1
      have kA : Keep (fun k => k = ms) w w8 := H8.out.2.2.1
      have hra : RowAt w8 1 A zs.length (zs.map u64V) := H8.out.2.2.2.1
      have hbk := H8.out.2.2.2.2.1
      have hmW := TL0.out.2.2.2.2.blk hm9 (fun e => by omega)
      refine leaves_cons (f := 62) (args := #[.pointer (some ⟨ms, 0, none⟩)]) (by simp) (by simp [go_sem]) ?_
      refine (hd_wunlock_d hmW rfl rfl .returning).mono ?_
      rintro e u' w5 ⟨rfl, rfl, hm5, hk5⟩
      have hr5 := (hk5.blk TL0.out.2.2.2.1 (fun e => by omega)).rangeAt
      have kC := kA.trans TL0.out.2.2.2.2 (fun k hk e => by omega)
      have kD := kC.trans hk5 (fun _ _ e => e)
      have hm6 : Blk w5 ms 87 h.lk.un.cells := hm5
      rw [Hd.lk_un HE.out.2.2.1 HE.out.2.2.2.1] at hm6
      have hrow := (hra.keep TL0.out.2.2.2.2 (fun k hk _ e => by have := hbk k hk; omega)).keep hk5 (fun k hk _ e => by have := hbk k hk; omega)
      exact ⟨_, results_cell rfl _ _ _ (w.heap.size + 1) 0 rfl (stC h sz 0 (.slice A zs.length c')) _ hr5 Tryz.underlying80 rfl hi80, sz, 0, A, c', zs, rfl, hrow, H8.out.2.2.2.2.2, hzl, HS.out.turn kD hm6 ⟨rfl, rfl, rfl, rfl, rfl, rfl, rfl, rfl, rfl, rfl⟩, kD⟩
    · have hz0' : (0 : Int) < (zs.length : Int) := by omega
      go_wp2_with (first | (refine wpList_load_mid rfl 80 (.tmp 3) rfl w1.heap.size 0 rfl (stC h sz (zs.length : Int) (.slice A zs.length c')) _ TL1.out.1 Tryz.underlying80 rfl hi80 ?_) | (refine wpList_store_mid rfl 80 (.tmp 2) (.tmp 57) rfl (w.heap.size + 1) 0 (stC h sz (zs.length : Int) (.slice A zs.length c')).toArray rfl rfl TL1.out.2.1 hi80 TL1.out.2.2.1 ?_) | fail)
      have hm9 : Blk (w8.setCell ⟨w1.heap.size, 8, none⟩ (.int .i64 (zs.length : Int))) ms 87 _ := (keep1 w8 w1.heap.size 8 (.int .i64 (zs.length : Int))).blk H8.out.2.1 (fun e => by omega)
      have kA : Keep (fun k => k = ms) w (w8.setCell ⟨w1.heap.size, 8, none⟩ (.int .i64 (zs.length : Int))) := H8.out.2.2.1.trans (keep1 w8 w1.heap.size 8 (.int .i64 (zs.length : Int))) (fun k hk e => by omega)
      have hra : RowAt (w8.setCell ⟨w1.heap.size, 8, none⟩ (.int .i64 (zs.length : Int))) 1 A zs.length (zs.map u64V) := H8.out.2.2.2.1.keep (keep1 w8 w1.heap.size 8 (.int .i64 (zs.length : Int))) (fun k hk _ e => by have := H8.out.2.2.2.2.1 k hk; omega)
      have hbk := H8.out.2.2.2.2.1
      have hmW := TL1.out.2.2.2.2.blk hm9 (fun e => by omega)
      refine leaves_cons (f := 62) (args := #[.pointer (some ⟨ms, 0, none⟩)]) (by simp) (by simp [go_sem]) ?_
      refine (hd_wunlock_d hmW rfl rfl .returning).mono ?_
      rintro e u' w5 ⟨rfl, rfl, hm5, hk5⟩
      have hr5 := (hk5.blk TL1.out.2.2.2.1 (fun e => by omega)).rangeAt
      have kC := kA.trans TL1.out.2.2.2.2 (fun k hk e => by omega)
      have kD := kC.trans hk5 (fun _ _ e => e)
      have hm6 : Blk w5 ms 87 h.lk.un.cells := hm5
      rw [Hd.lk_un HE.out.2.2.1 HE.out.2.2.2.1] at hm6
      have hrow := (hra.keep TL1.out.2.2.2.2 (fun k hk _ e => by have := hbk k hk; omega)).keep hk5 (fun k hk _ e => by have := hbk k hk; omega)
      exact ⟨_, results_cell rfl _ _ _ (w.heap.size + 1) 0 rfl (stC h sz (zs.length : Int) (.slice A zs.length c')) _ hr5 Tryz.underlying80 rfl hi80, sz, (zs.length : Int), A, c', zs, rfl, hrow, H8.out.2.2.2.2.2, hzl, HS.out.turn kD hm6 ⟨rfl, rfl, rfl, rfl, rfl, rfl, rfl, rfl, rfl, rfl⟩, kD⟩

end Go.Proofs.YtmblkpjnafgplaaGreatDoor
