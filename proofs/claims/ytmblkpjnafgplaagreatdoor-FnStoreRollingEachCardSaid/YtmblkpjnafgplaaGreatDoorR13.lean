/- LoadMsg and what it comes to. LoadMsg, message. FastState. storeRawMsg's text, cut into statements. storeRawMsg: its parts, one declaration each. PRINTED by wip/gen_sr.py. storeRawMsg: its parts, one declaration each. PRINTED by wip/gen_sr.py. storeRawMsg: its parts, one declaration each. PRINTED by wip/gen_sr.py. -/
import Derived.Test.YtmblkpjnafgplaaGreatDoorR10
import Derived.Test.YtmblkpjnafgplaaGreatDoorRWl
import Derived.Deep.RegionLawGrows
import Derived.BigRegion
import Derived.Deep.RegionHeld3
import Derived.Deep.DeepCutAuto
import Derived.BigQuiet
import Derived.StillTailTactics
import Derived.Test.YtmblkpjnafgplaaGreatDoorR03
namespace Go.Proofs.YtmblkpjnafgplaaGreatDoor
open Go Go.RowKit
set_option linter.unusedVariables false
set_option linter.unusedSimpArgs false

theorem cut_hm (A : Option Addr) (n c j : Nat) (hj : j ≤ c) (w : World) : (Instr.slice 37 (.slice A n c) none (some (.int .i64 (j : Int))) (some (.int .i64 (j : Int)))).run Tryz.prog w = .ok (.slice (cutA A j 0) j j) w := by
  rw [run_slice_hm (P := Tryz.prog) w 37 A n c (by simp [Program.elem, Tryz.underlying37]) .i64 .i64 j j (by omega) (by omega) (by omega)]
  simp [Program.elem, Tryz.underlying37, Tryz.sizeOf5, sliced, cutA]

set_option maxHeartbeats 2000000 in
set_option maxRecDepth 100000 in
/-- copy: a message's parts into a fresh block -/
theorem copy_any (w : World) (N : Nat → Prop) (i : Item) (d : Nat) (hm : MsgAt w N i) (hok : i.rc.Ok) (hd : Blk w d 145 #[.string ⟨#[]⟩, .slice none 0 0, .slice none 0 0, .slice none 0 0, .int .u64 0, .int .i64 0]) (hdb : d ≠ i.blk) (B : Nat) (hB : B ≤ d) :
    Calls Tryz.prog 91 #[.pointer (some ⟨i.blk, 0, none⟩), .pointer (some ⟨d, 0, none⟩)] w fun e w' =>
      e = .returned (.tuple #[]) ∧ MsgAt w' (fun k => k < B) ⟨i.seq, d, i.rc⟩ ∧ Keep (fun k => k = d) w w' := by
  obtain ⟨A1, c1, A2, c2, A3, c3, hb, hn, r1, r2, r3, l1, l2, l3, hbk⟩ := hm
  have d3 : w.cell? ⟨d, 3, none⟩ = some (.slice none 0 0) := by rw [hd.cell]; rfl
  have f3 : w.frozen? ⟨d, 3, none⟩ = false := hd.frozen 3
  have b3 : w.cell? ⟨i.blk, 3, none⟩ = some (.slice A3 (i.rc.hdr ++ i.rc.dat).length c3) := by rw [hb.cell]; rfl
  have hn3 : (binOp BinOp.neq 37 (.slice none 0 0) (.slice none 0 0)).run Tryz.prog w = .ok (.bool false) w := by kernel_rfl
  go_enter Tryz.func91, Tryz.ntmps91
  go_wp2_with fail
  have R3 := Lib.hid r3
  have HB := Lib.hid (And.intro hb (And.intro hd hbk))
  have hlt := hd.lt
  have hl3 : (i.rc.hdr ++ i.rc.dat).length ≤ 10000 := by have := hok.h1; have := hok.d1; simp; omega
  clear hb hd hbk r1 r2 r3
  go_cut [] (fun wx => ∃ A4 n4 c4, BRow wx w.heap.size (.slice A4 n4 c4) (i.rc.hdr ++ i.rc.dat) ∧ Blk wx d 145 #[.string ⟨#[]⟩, .slice none 0 0, .slice none 0 0, .slice A4 n4 c4, .int .u64 0, .int .i64 0] ∧ Keep (fun k => k = d) w wx)
  case first =>
    go_region_law (refine step_append_b rfl (.tmp 21) (.tmp 25) rfl w.heap.size (.slice none 0 0) [] A3 (i.rc.hdr ++ i.rc.dat).length c3 (i.rc.hdr ++ i.rc.dat) (by simp [Act.eval, Act.put]) (by simp [Act.eval, Act.put]) (World.ownsRow_nil _ _ _ _) (R3.out.keep ((Keep.refl NoB w).drew) (fun _ _ _ h => h)) (Nat.le_refl _) (by simp only [List.length_nil]; omega) ?_; intro v1 w1 hv1 hg1; obtain ⟨A4, n4, c4, rfl⟩ := hv1.shape; have hk1 := Keep.of_grown hg1; have hd1 := hk1.blk (show Blk w.drew d 145 _ from HB.out.2.1) (by simp [Value.ownBlock]); have e3 : w1.cell? ⟨d, 3, none⟩ = some (.slice none 0 0) := (by rw [hd1.cell]; rfl); have g3 : w1.frozen? ⟨d, 3, none⟩ = false := hd1.frozen 3)
    all_goals
      go_wp2_with fail
      go_meet
      exact ⟨A4, n4, c4, BRow.put hv1 hd1 (by decide) 3 _, hd1.set_ 3 _, ((((Keep.refl (fun k => k = d) w).drew).trans (hk1.mono (G := fun k => k = d) (fun k _ e => by simp [Value.ownBlock] at e)) (fun k _ e => e)).put rfl 3 _)⟩
  case rest =>
    obtain ⟨A4, n4, c4, hrow, hd4, hk4⟩ := hcut
    obtain ⟨A', c', e', hle, hcm, hr, hbk4⟩ := hrow.row
    injection e' with e1 e2 e3
    subst e1; subst e3; subst e2
    have hne4 := hrow.ne_blk hd4 (by decide)
    have hty4 := hrow.ty
    have hdi : ¬ i.blk = d := fun e => hdb e.symm
    have hbi := hk4.blk HB.out.1 hdi
    have hhl : i.rc.hdr.length ≤ (i.rc.hdr ++ i.rc.dat).length := by simp
    have q1 := cut_hm A4 (i.rc.hdr ++ i.rc.dat).length c4 i.rc.hdr.length (by omega)
    have q2 := cut_lo A4 (i.rc.hdr ++ i.rc.dat).length c4 i.rc.hdr.length hhl
    have x1 : wc.cell? ⟨d, 1, none⟩ = some (.slice none 0 0) := by rw [hd4.cell]; rfl
    have x2 : wc.cell? ⟨d, 2, none⟩ = some (.slice none 0 0) := by rw [hd4.cell]; rfl
    have x3 : wc.cell? ⟨d, 3, none⟩ = some (.slice A4 (i.rc.hdr ++ i.rc.dat).length c4) := by rw [hd4.cell]; rfl
    have y1 : wc.cell? ⟨i.blk, 1, none⟩ = some (.slice A1 i.rc.hdr.length c1) := by rw [hbi.cell]; rfl
    have z1 : wc.frozen? ⟨d, 1, none⟩ = false := hd4.frozen 1
    have z2 : wc.frozen? ⟨d, 2, none⟩ = false := hd4.frozen 2
    have RR := Lib.hid (And.intro hr (And.intro hbk4 (And.intro hne4 (And.intro hle (And.intro hd4 (And.intro hbi (And.intro hk4 hty4)))))))
    clear hrow hr hbk4 hne4 hd4 hbi hk4 hty4 d3 f3 b3 hn3 hl3
    generalize hn : (i.rc.hdr ++ i.rc.dat).length = n at q1 q2 x3 hle hhl RR
    generalize hlh : i.rc.hdr.length = l at q1 q2 y1 hhl
    have HN := Lib.hid (And.intro hn hlh)
    clear hn hlh
    have mk := Lib.hid (show (∀ (W : World) v u, W.cell? ⟨d, 3, none⟩ = some u → (W.setCell ⟨d, 1, none⟩ v).cell? ⟨d, 3, none⟩ = some u) ∧ (∀ (W : World) v u, W.cell? ⟨d, 3, none⟩ = some u → (W.setCell ⟨d, 2, none⟩ v).cell? ⟨d, 3, none⟩ = some u) ∧ (∀ (W : World) v u j, W.cell? ⟨i.blk, 1, none⟩ = some u → (W.setCell ⟨d, j, none⟩ v).cell? ⟨i.blk, 1, none⟩ = some u) from
      ⟨fun W v u h => (World.cell?_setCell_other W ⟨d, 1, none⟩ ⟨d, 3, none⟩ v (by simp)).trans h, fun W v u h => (World.cell?_setCell_other W ⟨d, 2, none⟩ ⟨d, 3, none⟩ v (by simp)).trans h, fun W v u j h => (World.cell?_setCell_other W ⟨d, j, none⟩ ⟨i.blk, 1, none⟩ v (by intro e; injection e with e; exact hdi e.symm)).trans h⟩)
    go_wp2_with fail
    go_cut [] (fun wx => Blk wx d 145 #[.string ⟨#[]⟩, .slice (cutA A4 l 0) l l, .slice (cutA A4 c4 l) (n - l) (c4 - l), .slice A4 n c4, .int .u64 0, .int .i64 0] ∧ Keep (fun k => k = d) wc wx)
    case first =>
      go_region_held3 (fun w' => w'.cell? ⟨d, 3, none⟩ = some (.slice A4 n c4) ∧ w'.cell? ⟨i.blk, 1, none⟩ = some (.slice A1 l c1)) (first | exact ⟨x3, y1⟩ | exact ⟨mk.out.1 _ _ _ x3, mk.out.2.2 _ _ _ _ y1⟩ | exact ⟨mk.out.2.1 _ _ _ x3, mk.out.2.2 _ _ _ _ y1⟩ | exact ⟨mk.out.2.1 _ _ _ (mk.out.1 _ _ _ x3), mk.out.2.2 _ _ _ _ (mk.out.2.2 _ _ _ _ y1)⟩ | exact ⟨mk.out.1 _ _ _ (mk.out.2.1 _ _ _ x3), mk.out.2.2 _ _ _ _ (mk.out.2.2 _ _ _ _ y1)⟩) (fail)
      · go_wp2_with fail
        go_meet
        exact ⟨(RR.out.2.2.2.2.1.set_ 1 _).set_ 2 _, ((keep1 wc d 1 _).put rfl 2 _).drew⟩
    case rest =>
      obtain ⟨hd5, hk5⟩ := hcut
      have hbi := hk5.blk RR.out.2.2.2.2.2.1 hdi
      have a0 : wc.cell? ⟨i.blk, 0, none⟩ = some (str i.rc.subj) := by rw [hbi.cell]; rfl
      have a4 : wc.cell? ⟨i.blk, 4, none⟩ = some (.int .u64 (i.seq : Int)) := by rw [hbi.cell]; rfl
      have a5 : wc.cell? ⟨i.blk, 5, none⟩ = some (.int .i64 i.rc.ts) := by rw [hbi.cell]; rfl
      have x0 : wc.cell? ⟨d, 0, none⟩ = some (.string ⟨#[]⟩) := by rw [hd5.cell]; rfl
      have x4 : wc.cell? ⟨d, 4, none⟩ = some (.int .u64 0) := by rw [hd5.cell]; rfl
      have x5 : wc.cell? ⟨d, 5, none⟩ = some (.int .i64 0) := by rw [hd5.cell]; rfl
      have z0 : wc.frozen? ⟨d, 0, none⟩ = false := hd5.frozen 0
      have z4 : wc.frozen? ⟨d, 4, none⟩ = false := hd5.frozen 4
      have z5 : wc.frozen? ⟨d, 5, none⟩ = false := hd5.frozen 5
      have mk4 := Lib.hid (show ∀ (W : World) v u j jj, W.cell? ⟨i.blk, jj, none⟩ = some u → (W.setCell ⟨d, j, none⟩ v).cell? ⟨i.blk, jj, none⟩ = some u from fun W v u j jj h => (World.cell?_setCell_other W ⟨d, j, none⟩ ⟨i.blk, jj, none⟩ v (by intro e; injection e with e; exact hdi e.symm)).trans h)
      have hfin : ∀ W', Blk W' d 145 #[str i.rc.subj, .slice (cutA A4 l 0) l l, .slice (cutA A4 c4 l) (n - l) (c4 - l), .slice A4 n c4, .int .u64 (i.seq : Int), .int .i64 i.rc.ts] → Keep (fun k => k = d) wc W' → MsgAt W' (fun k => k < B) ⟨i.seq, d, i.rc⟩ ∧ Keep (fun k => k = d) w W' := by
        intro W' hb hk'
        obtain ⟨hr, hbk4, hne4, hle, _, _, hk4, hty4⟩ := RR.out
        obtain ⟨rfl, rfl⟩ := HN.out
        have hkk := hk5.trans hk' (fun _ _ e => e)
        have hlen : (i.rc.hdr ++ i.rc.dat).length - i.rc.hdr.length = i.rc.dat.length := by simp
        have hdrop : (i.rc.hdr ++ i.rc.dat).drop i.rc.hdr.length = i.rc.dat := by simp
        have e1 : ((i.rc.hdr ++ i.rc.dat).take i.rc.hdr.length).drop 0 = i.rc.hdr := by simp
        have hll : i.rc.hdr.length ≤ (i.rc.hdr ++ i.rc.dat).length := by simp
        have hcut := hr.cut (i := i.rc.hdr.length) hll hle
        rw [hdrop, hlen] at hcut
        have htk := (hr.take (j := i.rc.hdr.length) hll).cut (i := 0) (c := i.rc.hdr.length) (Nat.zero_le _) (Nat.le_refl _)
        rw [e1] at htk
        rw [hlen] at hb
        refine ⟨⟨cutA A4 i.rc.hdr.length 0, i.rc.hdr.length, cutA A4 c4 i.rc.hdr.length, c4 - i.rc.hdr.length, A4, c4, hb, by simp only; omega, ?_, ?_, ?_, Nat.le_refl _, ?_, hle, ?_, ?_⟩, hk4.trans hkk (fun _ _ e => e)⟩
        · exact htk.keep hkk (fun k hk _ e => hne4 k (blkOf_cut hk) e)
        · exact hcut.keep hkk (fun k hk _ e => hne4 k (blkOf_cut hk) e)
        · exact hr.keep hkk (fun k hk _ e => hne4 k hk e)
        · show i.rc.dat.length ≤ c4 - i.rc.hdr.length
          simp at hle; omega
        · have hsz := hkk.size
          have hall : ∀ k, blkOf A4 k → k < W'.heap.size ∧ ¬ k < B := fun k hk => by have := hbk4 k hk; omega
          rintro k (hk | hk | hk)
          · exact hall k (blkOf_cut hk)
          · exact hall k (blkOf_cut hk)
          · exact hall k hk
        · have h5 : ∀ k, blkOf A4 k → ∃ cs, Blk W' k 5 cs := fun k hk => by
            obtain ⟨cs, h5⟩ := hty4 k hk
            exact ⟨cs, hkk.blk h5 (fun e => hne4 k hk e)⟩
          rintro k (hk | hk | hk)
          · exact h5 k (blkOf_cut hk)
          · exact h5 k (blkOf_cut hk)
          · exact h5 k hk
      have HF := Lib.hid hfin
      have RB := Lib.hid (And.intro hd5 (Keep.refl (fun k => k = d) wc))
      clear hfin hd5 hk5 hbi x1 x2 x3 y1 z1 z2 q1 q2 mk
      go_wp2_with fail
      go_region_held3 (fun w' => w'.cell? ⟨i.blk, 0, none⟩ = some (str i.rc.subj) ∧ w'.cell? ⟨i.blk, 4, none⟩ = some (.int .u64 (i.seq : Int)) ∧ w'.cell? ⟨i.blk, 5, none⟩ = some (.int .i64 i.rc.ts)) (exact ⟨by (first | exact a0 | exact mk4.out _ _ _ _ _ a0 | exact mk4.out _ _ _ _ _ (mk4.out _ _ _ _ _ a0) | exact mk4.out _ _ _ _ _ (mk4.out _ _ _ _ _ (mk4.out _ _ _ _ _ a0))), by (first | exact a4 | exact mk4.out _ _ _ _ _ a4 | exact mk4.out _ _ _ _ _ (mk4.out _ _ _ _ _ a4) | exact mk4.out _ _ _ _ _ (mk4.out _ _ _ _ _ (mk4.out _ _ _ _ _ a4))), by (first | exact a5 | exact mk4.out _ _ _ _ _ a5 | exact mk4.out _ _ _ _ _ (mk4.out _ _ _ _ _ a5) | exact mk4.out _ _ _ _ _ (mk4.out _ _ _ _ _ (mk4.out _ _ _ _ _ a5)))⟩) (fail)
      go_wp2_with fail
      go_end0
      exact ⟨rfl, HF.out _ (((RB.out.1.set_ 0 _).set_ 4 _).set_ 5 _) ((((RB.out.2.put rfl 0 _).put rfl 4 _).put rfl 5 _).drew)⟩

end Go.Proofs.YtmblkpjnafgplaaGreatDoor

namespace Go.Proofs.YtmblkpjnafgplaaGreatDoor
open Go Go.RowKit
set_option linter.unusedVariables false
set_option linter.unusedSimpArgs false

theorem Hd.back {h : Hd} (h4 : h.l4 = 0) : ({ ({ h with l4 := 1 } : Hd) with l4 := 0 } : Hd) = h := by
  cases h; simp at h4 ⊢; exact h4.symm

/-- the read lock taken, and given back -/
theorem StoreAt.rl {w w' : World} {ms : Nat} {h : Hd} {its : List Item} {M : List Ent} {F : List Nat} (S : StoreAt w ms h its M F) (hk : Keep (fun k => k = ms) w w') (hb : Blk w' ms 87 ({ h with l4 := 1 } : Hd).cells) : StoreAt w' ms { h with l4 := 1 } its M F :=
  S.turn hk hb ⟨rfl, rfl, rfl, rfl, rfl, rfl, rfl, rfl, rfl, rfl⟩

set_option maxHeartbeats 2000000 in
set_option maxRecDepth 100000 in
theorem load_yes (w : World) (ms : Nat) (h : Hd) (its : List Item) (M : List Ent) (F : List Nat) (i : Item) (S : StoreAt w ms h its M F) (h4 : h.l4 = 0) (hi : i ∈ its) :
    Calls Tryz.prog 85 #[.pointer (some ⟨ms, 0, none⟩), .int .u64 (i.seq : Int), .pointer none, .bool true] w fun e w' => ∃ d, e = .returned (.tuple #[.pointer (some ⟨d, 0, none⟩), .nilIface]) ∧
      MsgAt w' (fun k => k < w.heap.size) ⟨i.seq, d, i.rc⟩ ∧ StoreAt w' ms h its M F ∧ Keep (fun k => k = ms) w w' := by
  have hms := S.hd.lt
  have HS := Lib.hid S
  have hl := hd_rlock S.hd h4
  clear S
  go_enter Tryz.func85, Tryz.ntmps85
  go_wp2_with fail
  refine hl.mono ?_
  rintro e w1 ⟨rfl, hb1, hk1⟩
  have S1 := HS.out.rl hk1 hb1
  have c25 : w1.cell? ⟨ms, 25, none⟩ = some (.map (some h.r)) := by rw [hb1.cell]; rfl
  have c18 : w1.cell? ⟨ms, 18, none⟩ = some (.int .u64 (h.n : Int)) := by rw [hb1.cell]; rfl
  have hmap := S1.mapA
  have hnd := S1.nodup
  have hmem : (i.seq, i.blk) ∈ its.map fun i => (i.seq, i.blk) := List.mem_map.2 ⟨i, hi, rfl⟩
  have H1 := Lib.hid (And.intro S1 (And.intro hmap (And.intro hnd (And.intro hmem (And.intro hb1 hk1)))))
  clear S1 hmap hnd hmem hb1 hk1 hl
  go_wp2_with (first | (refine wpList_look rfl _ _ rfl i.seq i.blk rfl rfl H1.out.2.1 H1.out.2.2.1 H1.out.2.2.2.1 ?_) | fail)
  refine (hd_runlock H1.out.2.2.2.2.1 rfl).mono ?_
  rintro e w2 ⟨rfl, hb2, hk2⟩
  have S2 := H1.out.1.turn hk2 hb2 ⟨rfl, rfl, rfl, rfl, rfl, rfl, rfl, rfl, rfl, rfl⟩
  rw [Hd.back h4] at S2
  have hk12 := H1.out.2.2.2.2.2.trans hk2 (fun _ _ e => e)
  have hz := hk12.size
  have hcopy := copy_any (w2.alloc (.cells #[.string ⟨#[]⟩, .slice none 0 0, .slice none 0 0, .slice none 0 0, .int .u64 0, .int .i64 0] 145)) (Mut ms h F) i w2.heap.size
    ((S2.msg i hi).keep ((Keep.refl NoB w2).alloc _) (fun _ _ h => h.elim) (fun _ _ h => h)) (S2.ok i hi) (Blk.new w2 145 _) (fun e => by obtain ⟨_, _, _, _, _, _, hb, _⟩ := S2.msg i hi; have := hb.lt; omega) w.heap.size hz
  have H2 := Lib.hid (And.intro S2 hk12)
  have HC := Lib.hid hcopy
  clear hcopy S2 hk12 hb2 hk2
  go_wp2_with fail
  refine HC.out.mono ?_
  rintro e w3 ⟨rfl, hm3, hk3⟩
  go_wp2_with fail
  go_ret2
  refine ⟨_, rfl, hm3, ?_, ?_⟩
  · have hkn : Keep NoB w2 w3 := ((Keep.refl NoB w2).alloc _).trans (hk3.mono (G := fun k => k = w2.heap.size) (fun _ _ e => e)) (fun k hk e => by omega)
    exact H2.out.1.keep hkn (fun _ _ h => h)
  · have hkn : Keep NoB w2 w3 := ((Keep.refl NoB w2).alloc _).trans (hk3.mono (G := fun k => k = w2.heap.size) (fun _ _ e => e)) (fun k hk e => by omega)
    exact H2.out.2.none_trans hkn

end Go.Proofs.YtmblkpjnafgplaaGreatDoor

namespace Go.Proofs.YtmblkpjnafgplaaGreatDoor
open Go Go.RowKit
set_option maxRecDepth 100000
set_option linter.unusedVariables false
set_option linter.unusedSimpArgs false

abbrev zSt : Array Value := #[.int .u64 0, .int .u64 0, .int .u64 0, .int .i64 0, .int .u64 0, .int .i64 0, .int .i64 0, .map none, .int .i64 0, .slice none 0 0, .int .i64 0]

set_option maxHeartbeats 4000000 in
theorem fast_any (w : World) (ms x : Nat) (h : Hd) (its : List Item) (M : List Ent) (F : List Nat) (S : StoreAt w ms h its M F) (h4 : h.l4 = 0) (hx : Blk w x 80 zSt) (hne : x ≠ ms) :
    Calls Tryz.prog 26 #[.pointer (some ⟨ms, 0, none⟩), .pointer (some ⟨x, 0, none⟩)] w fun e w' => e = .returned (.tuple #[]) ∧ (∃ C n, Blk w' x 80 C ∧ C[4]? = some (.int .u64 n)) ∧ Keep (fun k => k = ms ∨ k = x) w w' ∧ Blk w' ms 87 h.cells := by
  have hl := hd_rlock S.hd h4
  have hne' : ms ≠ x := fun e => hne e.symm
  have HS := Lib.hid S
  have HX := Lib.hid hx
  clear S hx
  go_enter Tryz.func26, Tryz.ntmps26
  go_wp2_with fail
  refine hl.mono ?_
  rintro e w1 ⟨rfl, hb1, hk1⟩
  have hx1 := hk1.blk HX.out hne
  have c14 : w1.cell? ⟨ms, 14, none⟩ = some (.int .u64 (h.cnt : Int)) := by rw [hb1.cell]; rfl
  have c15 : w1.cell? ⟨ms, 15, none⟩ = some (.int .u64 h.byt) := by rw [hb1.cell]; rfl
  have c16 : w1.cell? ⟨ms, 16, none⟩ = some (.int .u64 (h.fsq : Int)) := by rw [hb1.cell]; rfl
  have c17 : w1.cell? ⟨ms, 17, none⟩ = some (.int .i64 h.ft) := by rw [hb1.cell]; rfl
  have c18 : w1.cell? ⟨ms, 18, none⟩ = some (.int .u64 (h.n : Int)) := by rw [hb1.cell]; rfl
  have c19 : w1.cell? ⟨ms, 19, none⟩ = some (.int .i64 h.lt) := by rw [hb1.cell]; rfl
  have c26 : w1.cell? ⟨ms, 26, none⟩ = some (.pointer (some ⟨h.tb, 0, none⟩)) := by rw [hb1.cell]; rfl
  have x0 : w1.cell? ⟨x, 0, none⟩ = some (.int .u64 0) := by rw [hx1.cell]; rfl
  have x1 : w1.cell? ⟨x, 1, none⟩ = some (.int .u64 0) := by rw [hx1.cell]; rfl
  have x2 : w1.cell? ⟨x, 2, none⟩ = some (.int .u64 0) := by rw [hx1.cell]; rfl
  have x3 : w1.cell? ⟨x, 3, none⟩ = some (.int .i64 0) := by rw [hx1.cell]; rfl
  have x4 : w1.cell? ⟨x, 4, none⟩ = some (.int .u64 0) := by rw [hx1.cell]; rfl
  have x5 : w1.cell? ⟨x, 5, none⟩ = some (.int .i64 0) := by rw [hx1.cell]; rfl
  have x6 : w1.cell? ⟨x, 6, none⟩ = some (.int .i64 0) := by rw [hx1.cell]; rfl
  have x8 : w1.cell? ⟨x, 8, none⟩ = some (.int .i64 0) := by rw [hx1.cell]; rfl
  have y0 := hx1.frozen 0
  have y1 := hx1.frozen 1
  have y2 := hx1.frozen 2
  have y3 := hx1.frozen 3
  have y4 := hx1.frozen 4
  have y5 := hx1.frozen 5
  have y6 := hx1.frozen 6
  have y8 := hx1.frozen 8
  have H1 := Lib.hid (And.intro hb1 (And.intro hk1 hx1))
  clear hb1 hk1 hx1 hl
  go_wp2_with fail
  have hb2 := (((((H1.out.2.2.set_ 0 (.int .u64 (h.cnt : Int))).set_ 1 (.int .u64 h.byt)).set_ 2 (.int .u64 (h.fsq : Int))).set_ 3 (.int .i64 h.ft)).set_ 4 (.int .u64 (h.n : Int))).set_ 5 (.int .i64 h.lt)
  have hk2 := (((((keep1 w1 x 0 (.int .u64 (h.cnt : Int))).put rfl 1 (.int .u64 h.byt)).put rfl 2 (.int .u64 (h.fsq : Int))).put rfl 3 (.int .i64 h.ft)).put rfl 4 (.int .u64 (h.n : Int))).put rfl 5 (.int .i64 h.lt)
  have hm2 := hk2.blk H1.out.1 hne'
  change Blk _ _ _ #[.int .u64 (h.cnt : Int), .int .u64 h.byt, .int .u64 (h.fsq : Int), .int .i64 h.ft, .int .u64 (h.n : Int), .int .i64 h.lt, .int .i64 0, .map none, .int .i64 0, .slice none 0 0, .int .i64 0] at hb2
  generalize (((((w1.setCell ⟨x, 0, none⟩ (.int .u64 (h.cnt : Int))).setCell ⟨x, 1, none⟩ (.int .u64 h.byt)).setCell ⟨x, 2, none⟩ (.int .u64 (h.fsq : Int))).setCell ⟨x, 3, none⟩ (.int .i64 h.ft)).setCell ⟨x, 4, none⟩ (.int .u64 (h.n : Int))).setCell ⟨x, 5, none⟩ (.int .i64 h.lt) = W at hb2 hk2 hm2 ⊢
  clear c14 c15 c16 c17 c18 c19 c26 x0 x1 x2 x3 x4 x5 x6 x8 y0 y1 y2 y3 y4 y5 y6 y8
  have c26 : W.cell? ⟨ms, 26, none⟩ = some (.pointer (some ⟨h.tb, 0, none⟩)) := by rw [hm2.cell]; rfl
  have x0 : W.cell? ⟨x, 0, none⟩ = some (.int .u64 (h.cnt : Int)) := by rw [hb2.cell]; rfl
  have x2 : W.cell? ⟨x, 2, none⟩ = some (.int .u64 (h.fsq : Int)) := by rw [hb2.cell]; rfl
  have x4 : W.cell? ⟨x, 4, none⟩ = some (.int .u64 (h.n : Int)) := by rw [hb2.cell]; rfl
  have x6 : W.cell? ⟨x, 6, none⟩ = some (.int .i64 0) := by rw [hb2.cell]; rfl
  have x8 : W.cell? ⟨x, 8, none⟩ = some (.int .i64 0) := by rw [hb2.cell]; rfl
  have y6 := hb2.frozen 6
  have y8 := hb2.frozen 8
  have hkk : Keep (fun k => k = ms ∨ k = x) w W := (H1.out.2.1.mono (G := fun k => k = ms ∨ k = x) (fun _ _ e => .inl e)).trans hk2 (fun k _ e => .inr e)
  have tbl : ∃ root, W.cell? ⟨h.tb, 1, none⟩ = some (.int .i64 root) ∧ h.tb ≠ x := by
    obtain ⟨root, hr, _⟩ := HS.out.tree
    have := hr.ne_ HX.out (by decide)
    exact ⟨_, by rw [(hkk.blk hr (fun e => e.elim (fun e => HS.out.dis2.2.1 e.symm) this)).cell]; rfl, this⟩
  obtain ⟨sz, ct, htx⟩ := tbl
  have H2 := Lib.hid (And.intro hb2 (And.intro hkk hm2))
  clear hb2 hk2 hm2 hkk
  have fin : ∀ W', Keep (fun k => k = x) W W' → (∃ C n, Blk W' x 80 C ∧ C[4]? = some (.int .u64 n)) → Calls Tryz.prog 65 #[.pointer (some ⟨ms, 0, none⟩)] W' fun e w' => e = .returned (.tuple #[]) ∧ (∃ C n, Blk w' x 80 C ∧ C[4]? = some (.int .u64 n)) ∧ Keep (fun k => k = ms ∨ k = x) w w' ∧ Blk w' ms 87 h.cells := by
    intro W' hk' hC
    obtain ⟨hb2, hkk, hm2⟩ := H2.out
    refine (hd_runlock (hk'.blk hm2 hne') rfl).mono ?_
    rintro e w3 ⟨rfl, hb3, hk3⟩
    have e3 := Hd.back h4
    obtain ⟨C, n, hC, hC4⟩ := hC
    refine ⟨rfl, ⟨C, n, hk3.blk hC hne, hC4⟩, (hkk.trans hk' (fun k _ e => .inr e)).trans hk3 (fun k _ e => .inl e), ?_⟩
    have hb4 : Blk w3 ms 87 ({ ({ h with l4 := 1 } : Hd) with l4 := 0 } : Hd).cells := hb3
    rw [e3] at hb4
    exact hb4
  have HF := Lib.hid fin
  clear fin
  by_cases hgt : h.fsq < h.n
  · go_quiet (fail)
    go_wp2_with fail
    generalize hW2 : W.drewN _ = W2
    have z0 : W2.cell? ⟨x, 0, none⟩ = some (.int .u64 (h.cnt : Int)) := by rw [← hW2]; simpa using x0
    have z2 : W2.cell? ⟨x, 2, none⟩ = some (.int .u64 (h.fsq : Int)) := by rw [← hW2]; simpa using x2
    have z4 : W2.cell? ⟨x, 4, none⟩ = some (.int .u64 (h.n : Int)) := by rw [← hW2]; simpa using x4
    have z8 : W2.cell? ⟨x, 8, none⟩ = some (.int .i64 0) := by rw [← hW2]; simpa using x8
    have z6 : W2.cell? ⟨x, 6, none⟩ = some (.int .i64 0) := by rw [← hW2]; simpa using x6
    have z26 : W2.cell? ⟨ms, 26, none⟩ = some (.pointer (some ⟨h.tb, 0, none⟩)) := by rw [← hW2]; simpa using c26
    have t8 : W2.frozen? ⟨x, 8, none⟩ = false := by rw [← hW2]; simpa using y8
    have t6 : W2.frozen? ⟨x, 6, none⟩ = false := by rw [← hW2]; simpa using y6
    have tc : W2.cell? ⟨h.tb, 1, none⟩ = some (.int .i64 sz) := by rw [← hW2]; simpa using ct
    have hkW : Keep (fun k => k = x) W W2 := by rw [← hW2]; exact (Keep.refl _ _).drewN _
    have hbW := hkW
    have hB2 : Blk W2 x 80 #[.int .u64 (h.cnt : Int), .int .u64 h.byt, .int .u64 (h.fsq : Int), .int .i64 h.ft, .int .u64 (h.n : Int), .int .i64 h.lt, .int .i64 0, .map none, .int .i64 0, .slice none 0 0, .int .i64 0] := by rw [← hW2]; exact H2.out.1
    have H3 := Lib.hid (And.intro hB2 hkW)
    clear hW2 hkW hbW hB2 x0 x2 x4 x6 x8 y6 y8 c26 ct
    go_still_tail 19, (by kernel_rfl)
    go_wp2_with fail
    · refine (size_any h.tb sz _ (by simp [tc, World.cell?_setCell_other, htx])).mono ?_
      rintro e w3 ⟨rfl, rfl⟩
      go_wp2_with fail
      refine (HF.out _ ((((H3.out.2.put rfl 8 _).put rfl 8 _).put rfl 6 _).drew) ⟨_, _, ((H3.out.1.set_ 8 _).set_ 8 _).set_ 6 _, rfl⟩).mono ?_
      rintro e w4 ⟨rfl, q1, q2, q3⟩
      go_wp2_with fail
      go_end0
      exact ⟨rfl, q1, q2, q3⟩
    · refine (size_any h.tb sz _ (by simp [tc, World.cell?_setCell_other, htx])).mono ?_
      rintro e w3 ⟨rfl, rfl⟩
      go_wp2_with fail
      refine (HF.out _ (((H3.out.2.put rfl 8 _).put rfl 6 _).drew) ⟨_, _, (H3.out.1.set_ 8 _).set_ 6 _, rfl⟩).mono ?_
      rintro e w4 ⟨rfl, q1, q2, q3⟩
      go_wp2_with fail
      go_end0
      exact ⟨rfl, q1, q2, q3⟩
  · go_quiet (fail)
    go_wp2_with fail
    refine (size_any h.tb sz _ (by simpa using ct)).mono ?_
    rintro e w3 ⟨rfl, rfl⟩
    go_wp2_with fail
    refine (HF.out _ (((Keep.refl (fun k => k = x) W).put rfl 6 _).drewN _) ⟨_, _, Blk.of_eq (H2.out.1.set_ 6 _) rfl, rfl⟩).mono ?_
    rintro e w4 ⟨rfl, q1, q2, q3⟩
    go_wp2_with fail
    go_end0
    exact ⟨rfl, q1, q2, q3⟩

end Go.Proofs.YtmblkpjnafgplaaGreatDoor

namespace Go.Proofs.YtmblkpjnafgplaaGreatDoor
open Go Go.RowKit
set_option maxRecDepth 100000
set_option linter.unusedVariables false
set_option linter.unusedSimpArgs false

def cHead : Code → Code
  | .seq a _ => a
  | c => c
def cTail : Code → Code
  | .seq _ b => b
  | _ => .skip
def tailN : Nat → Code → Code
  | 0, c => c
  | n + 1, c => tailN n (cTail c)
/-- what follows statement i of f61 -/
noncomputable def sT (i : Nat) : Code := tailN i (Tryz.f61.body.getD .skip)
noncomputable def sH (i : Nat) : Code := cHead (sT i)

theorem wp_seq_of {P : Program} {T a b : Code} {Q : Exit → Act → World → Prop} {f : Act} {w : World} (e : T = .seq a b) (h : ∀ K : Act → World → Prop, (∀ f w, b.wp P Q f w → K f w) → a.wp P (Exit.then K Q) f w) : T.wp P Q f w := by
  subst e
  exact wp_seq (h _ (fun _ _ h => h))

/-- Find, at the tree of a store -/
theorem find_at {w : World} {tb : Nat} {sz : Int} {M : List Ent} {F : List Nat} (ht : TreeAt w tb sz M F) (hsh : Short M) (A : Option Addr) (n c : Nat) (s : Bs) (h : RowAt w 1 A n (s.map byteV)) (hn : n ≤ 2305843009213693952) (hnc : n ≤ c) :
    Calls Tryz.prog 122 #[.pointer (some ⟨tb, 0, none⟩), .slice A n c] w fun e w' => ∃ p ok q, e = .returned (.tuple #[p, ok]) ∧ w' = w.drewN q ∧
      ((∃ b, (s, b) ∈ M ∧ p = .pointer (some ⟨b, 0, none⟩) ∧ ok = .bool true) ∨ ((∀ b, (s, b) ∉ M) ∧ p = .pointer none ∧ ok = .bool false)) := by
  obtain ⟨root, hb, hr, _⟩ := ht
  refine (find_tree tb A n c s root M F.length w h hn hnc (by rw [hb.cell]; rfl) ⟨Nat.zero_le _, ?_⟩).mono (fun e w' ⟨⟨q, hq⟩, hf⟩ => by
    rcases hf with ⟨b, h1, h2⟩ | ⟨h1, h2⟩
    · exact ⟨_, _, q, h2, hq, .inl ⟨b, h1, rfl, rfl⟩⟩
    · exact ⟨_, _, q, h2, hq, .inr ⟨h1, rfl, rfl⟩⟩)
  rcases hr with ⟨rfl, rfl, _⟩ | hr
  · exact .inl ⟨rfl, fun b hb => by cases hb⟩
  · exact .inr ⟨M, F, hr, hsh, rfl, fun b => by rw [List.drop_zero]⟩

theorem map_nil (r : Nat) (w : World) : (binOp BinOp.eql 81 (.map (some r)) (.map none)).run Tryz.prog w = .ok (.bool false) w := by kernel_rfl

end Go.Proofs.YtmblkpjnafgplaaGreatDoor

namespace Go.Proofs.YtmblkpjnafgplaaGreatDoor
open Go Go.RowKit
set_option maxRecDepth 100000
set_option linter.unusedVariables false
set_option linter.unusedSimpArgs false

/-- what Find tells of a subject -/
def Got (M : List Ent) (s : Bs) (v : Value) : Prop := (∃ b, (s, b) ∈ M ∧ v = .pointer (some ⟨b, 0, none⟩)) ∨ ((∀ b, (s, b) ∉ M) ∧ v = .pointer none)

set_option maxRecDepth 1000000 in
/-- what is asked of the text from statement 5 on -/
def Cont5 (R : Ending → World → Prop) (w : World) (ms : Nat) (h : Hd) (M : List Ent) (rc : Rec) (Ah Ad : Option Addr) (ch cd : Nat) : Prop :=
  ∀ (wy : World) (s17 s18 : Value) (u8 u9 u10 u11 u12 u13 u14 u15 u19 u20 u21 u22 u23 u24 u25 u26 u27 u28 u29 u30 u31 u32 u33 u34 u35 u36 u37 u38 u39 u40 u41 u42 u43 u44 u45 u46 u47 u48 u49 u50 u51 u52 u53 u54 u55 u56 u57 u58 u59 u60 u61 u62 u63 u64 u65 u66 u67 u68 u69 u70 u71 u72 u73 u74 u75 u76 u77 u78 u79 u80 u81 u82 u83 u84 u85 u86 u87 u88 u89 u90 u91 u92 u93 u94 u95 u96 u97 u98 u99 u100 u101 u102 u103 u104 u105 u106 u107 u108 u109 u110 u111 u112 u113 u114 u115 u116 u117 u118 u119 u120 u121 u122 u123 u124 u125 u126 u127 u128 u129 u130 u131 u132 u133 u134 u135 u136 u137 u138 u139 u140 u141 u142 u143 u144 u145 u146 u147 u148 u149 u150 u151 u152 u153 u154 u155 u156 u157 u158 u159 u160 u161 u162 u163 u164 u165 u166 u167 u168 u169 u170 u171 u172 u173 u174 u175 u176 u177 u178 u179 u180 u181 u182 u183 u184 u185 u186 u187 u188 u189 u190 u191 u192 u193 u194 u195 u196 u197 u198 u199 u200 u201 u202 u203 u204 u205 u206 u207 u208 u209 u210 u211 u212 u213 u214 u215 u216 u217 u218 u219 u220 u221 u222 u223 u224 u225 u226 u227 u228 u229 u230 u231 u232 u233 u234 u235 u236 u237 u238 u239 u240 u241 u242 u243 u244 u245 u246 u247 u248 u249 u250 u251 u252 u253 u254 u255 u256 u257 u258 u259 u260 u261 u262 u263 u264 u265 u266 u267 u268 u269 u270 u271 u272 u273 u274 u275 u276 u277 u278 u279 u280 u281 u282 u283 u284 u285 u286 u287 u288 u289 u290 u291 u292 u293 u294 u295 u296 u297 u298 u299 u300 u301 u302 u303 u304 u305 u306 u307 u308 u309 u310 u311 u312 u313 u314 u315 u316 u317 u318 u319 u320 u321 u322 u323 u324 u325 u326 u327 u328 u329 u330 u331 u332 u333 u334 u335 u336 u337 u338 u339 u340 u341 u342 u343 u344 u345 u346 u347 u348 u349 u350 u351 u352 u353 u354 u355 u356 u357 u358 u359 u360 u361 u362 : Value), Keep NoB w wy → Got M rc.subj s17 → (h.disc = 1 → s18 = .bool false) → Code.wp Tryz.prog (sT 5) (bodyPost Tryz.prog Tryz.f61 R) ⟨#[.pointer (some ⟨ms, 0, none⟩), str rc.subj, .slice Ah rc.hdr.length ch, .slice Ad rc.dat.length cd, .int .u64 0, .int .i64 rc.ts, .int .i64 0, .bool true, u8, u9, u10, u11, u12, u13, u14, u15, .nilIface, s17, s18, u19, u20, u21, u22, u23, u24, u25, u26, u27, u28, u29, u30, u31, u32, u33, u34, u35, u36, u37, u38, u39, u40, u41, u42, u43, u44, u45, u46, u47, u48, u49, u50, u51, u52, u53, u54, u55, u56, u57, u58, u59, u60, u61, u62, u63, u64, u65, u66, u67, u68, u69, u70, u71, u72, u73, u74, u75, u76, u77, u78, u79, u80, u81, u82, u83, u84, u85, u86, u87, u88, u89, u90, u91, u92, u93, u94, u95, u96, u97, u98, u99, u100, u101, u102, u103, u104, u105, u106, u107, u108, u109, u110, u111, u112, u113, u114, u115, u116, u117, u118, u119, u120, u121, u122, u123, u124, u125, u126, u127, u128, u129, u130, u131, u132, u133, u134, u135, u136, u137, u138, u139, u140, u141, u142, u143, u144, u145, u146, u147, u148, u149, u150, u151, u152, u153, u154, u155, u156, u157, u158, u159, u160, u161, u162, u163, u164, u165, u166, u167, u168, u169, u170, u171, u172, u173, u174, u175, u176, u177, u178, u179, u180, u181, u182, u183, u184, u185, u186, u187, u188, u189, u190, u191, u192, u193, u194, u195, u196, u197, u198, u199, u200, u201, u202, u203, u204, u205, u206, u207, u208, u209, u210, u211, u212, u213, u214, u215, u216, u217, u218, u219, u220, u221, u222, u223, u224, u225, u226, u227, u228, u229, u230, u231, u232, u233, u234, u235, u236, u237, u238, u239, u240, u241, u242, u243, u244, u245, u246, u247, u248, u249, u250, u251, u252, u253, u254, u255, u256, u257, u258, u259, u260, u261, u262, u263, u264, u265, u266, u267, u268, u269, u270, u271, u272, u273, u274, u275, u276, u277, u278, u279, u280, u281, u282, u283, u284, u285, u286, u287, u288, u289, u290, u291, u292, u293, u294, u295, u296, u297, u298, u299, u300, u301, u302, u303, u304, u305, u306, u307, u308, u309, u310, u311, u312, u313, u314, u315, u316, u317, u318, u319, u320, u321, u322, u323, u324, u325, u326, u327, u328, u329, u330, u331, u332, u333, u334, u335, u336, u337, u338, u339, u340, u341, u342, u343, u344, u345, u346, u347, u348, u349, u350, u351, u352, u353, u354, u355, u356, u357, u358, u359, u360, u361, u362], []⟩ wy

set_option maxHeartbeats 4000000 in
set_option maxRecDepth 1000000 in
theorem st4 {R : Ending → World → Prop} {ms : Nat} {rc : Rec} {Ah Ad : Option Addr} {ch cd : Nat} {u8 u9 u10 u11 u12 u13 u14 u15 u19 u20 u21 u22 u23 u24 u25 u26 u27 u28 u29 u30 u31 u32 u33 u34 u35 u36 u37 u38 u39 u40 u41 u42 u43 u44 u45 u46 u47 u48 u49 u50 u51 u52 u53 u54 u55 u56 u57 u58 u59 u60 u61 u62 u63 u64 u65 u66 u67 u68 u69 u70 u71 u72 u73 u74 u75 u76 u77 u78 u79 u80 u81 u82 u83 u84 u85 u86 u87 u88 u89 u90 u91 u92 u93 u94 u95 u96 u97 u98 u99 u100 u101 u102 u103 u104 u105 u106 u107 u108 u109 u110 u111 u112 u113 u114 u115 u116 u117 u118 u119 u120 u121 u122 u123 u124 u125 u126 u127 u128 u129 u130 u131 u132 u133 u134 u135 u136 u137 u138 u139 u140 u141 u142 u143 u144 u145 u146 u147 u148 u149 u150 u151 u152 u153 u154 u155 u156 u157 u158 u159 u160 u161 u162 u163 u164 u165 u166 u167 u168 u169 u170 u171 u172 u173 u174 u175 u176 u177 u178 u179 u180 u181 u182 u183 u184 u185 u186 u187 u188 u189 u190 u191 u192 u193 u194 u195 u196 u197 u198 u199 u200 u201 u202 u203 u204 u205 u206 u207 u208 u209 u210 u211 u212 u213 u214 u215 u216 u217 u218 u219 u220 u221 u222 u223 u224 u225 u226 u227 u228 u229 u230 u231 u232 u233 u234 u235 u236 u237 u238 u239 u240 u241 u242 u243 u244 u245 u246 u247 u248 u249 u250 u251 u252 u253 u254 u255 u256 u257 u258 u259 u260 u261 u262 u263 u264 u265 u266 u267 u268 u269 u270 u271 u272 u273 u274 u275 u276 u277 u278 u279 u280 u281 u282 u283 u284 u285 u286 u287 u288 u289 u290 u291 u292 u293 u294 u295 u296 u297 u298 u299 u300 u301 u302 u303 u304 u305 u306 u307 u308 u309 u310 u311 u312 u313 u314 u315 u316 u317 u318 u319 u320 u321 u322 u323 u324 u325 u326 u327 u328 u329 u330 u331 u332 u333 u334 u335 u336 u337 u338 u339 u340 u341 u342 u343 u344 u345 u346 u347 u348 u349 u350 u351 u352 u353 u354 u355 u356 u357 u358 u359 u360 u361 u362 : Value} {w : World} {h : Hd} {its : List Item} {M : List Ent} {F : List Nat} (S : StoreAt w ms h its M F) (hok : rc.Ok) (h5 : Cont5 R w ms h M rc Ah Ad ch cd)  :
    Code.wp Tryz.prog (sT 4) (bodyPost Tryz.prog Tryz.f61 R) ⟨#[.pointer (some ⟨ms, 0, none⟩), str rc.subj, .slice Ah rc.hdr.length ch, .slice Ad rc.dat.length cd, .int .u64 0, .int .i64 rc.ts, .int .i64 0, .bool true, u8, u9, u10, u11, u12, u13, u14, u15, .nilIface, .pointer none, .bool false, u19, u20, u21, u22, u23, u24, u25, u26, u27, u28, u29, u30, u31, u32, u33, u34, u35, u36, u37, u38, u39, u40, u41, u42, u43, u44, u45, u46, u47, u48, u49, u50, u51, u52, u53, u54, u55, u56, u57, u58, u59, u60, u61, u62, u63, u64, u65, u66, u67, u68, u69, u70, u71, u72, u73, u74, u75, u76, u77, u78, u79, u80, u81, u82, u83, u84, u85, u86, u87, u88, u89, u90, u91, u92, u93, u94, u95, u96, u97, u98, u99, u100, u101, u102, u103, u104, u105, u106, u107, u108, u109, u110, u111, u112, u113, u114, u115, u116, u117, u118, u119, u120, u121, u122, u123, u124, u125, u126, u127, u128, u129, u130, u131, u132, u133, u134, u135, u136, u137, u138, u139, u140, u141, u142, u143, u144, u145, u146, u147, u148, u149, u150, u151, u152, u153, u154, u155, u156, u157, u158, u159, u160, u161, u162, u163, u164, u165, u166, u167, u168, u169, u170, u171, u172, u173, u174, u175, u176, u177, u178, u179, u180, u181, u182, u183, u184, u185, u186, u187, u188, u189, u190, u191, u192, u193, u194, u195, u196, u197, u198, u199, u200, u201, u202, u203, u204, u205, u206, u207, u208, u209, u210, u211, u212, u213, u214, u215, u216, u217, u218, u219, u220, u221, u222, u223, u224, u225, u226, u227, u228, u229, u230, u231, u232, u233, u234, u235, u236, u237, u238, u239, u240, u241, u242, u243, u244, u245, u246, u247, u248, u249, u250, u251, u252, u253, u254, u255, u256, u257, u258, u259, u260, u261, u262, u263, u264, u265, u266, u267, u268, u269, u270, u271, u272, u273, u274, u275, u276, u277, u278, u279, u280, u281, u282, u283, u284, u285, u286, u287, u288, u289, u290, u291, u292, u293, u294, u295, u296, u297, u298, u299, u300, u301, u302, u303, u304, u305, u306, u307, u308, u309, u310, u311, u312, u313, u314, u315, u316, u317, u318, u319, u320, u321, u322, u323, u324, u325, u326, u327, u328, u329, u330, u331, u332, u333, u334, u335, u336, u337, u338, u339, u340, u341, u342, u343, u344, u345, u346, u347, u348, u349, u350, u351, u352, u353, u354, u355, u356, u357, u358, u359, u360, u361, u362], []⟩ w := by
  have c26 : w.cell? ⟨ms, 26, none⟩ = some (.pointer (some ⟨h.tb, 0, none⟩)) := by rw [S.hd.cell]; rfl
  have c31 : w.cell? ⟨ms, 31, none⟩ = some (.int .i64 (h.mp : Int)) := by rw [S.hd.cell]; rfl
  have hlen : (0 : Int) < rc.subj.length := by have := List.length_pos_iff.2 hok.s0; omega
  have hlb : ByteArray.size ⟨rc.subj.toArray⟩ = rc.subj.length := by simp [ByteArray.size]
  have hstb := stb2_any rc.subj
  have hl63 : rc.subj.length < 2 ^ 63 := by have := hok.s1; omega
  have hl61 : rc.subj.length ≤ 2305843009213693952 := by have := hok.s1; omega
  have hmpb := S.mpb.1
  have SS := Lib.hid S
  clear S
  refine wp_seq_of (show sT 4 = .seq (sH 4) (sT 5) from rfl) fun K hK => ?_
  conv => arg 2; whnf
  go_wp2_with fail
  go_region_held3 (fun w' => w'.cell? ⟨ms, 26, none⟩ = some (.pointer (some ⟨h.tb, 0, none⟩))) (first | exact c26 | exact k1.cellS c26 (fun h => h))
    (first | (go_at_call 96; refine (hstb _ hl63).mono ?_; rintro e w1 ⟨A1, c1, rfl, l1, r1, b1, k1⟩) | (go_at_call 122; refine (find_at (SS.out.tree.keep (((Keep.refl NoB w).drew).none_trans k1) (fun h => h) (fun k _ h => h)) SS.out.short A1 _ c1 rc.subj r1 hl61 l1).mono ?_; rintro e w2 ⟨p7, ok7, q, rfl, rfl, hgot⟩))
  all_goals
    have hk := ((((Keep.refl NoB w).drew).none_trans k1).drewN q)
    clear hstb r1 b1 k1 l1 c26
    generalize w1.drewN q = wz at hk ⊢
    have c31' := hk.cellS c31 (fun h => h)
    rcases hgot with ⟨b, hbM, rfl, rfl⟩ | ⟨hnM, rfl, rfl⟩
    · obtain ⟨fs, ls, fn, hx, hls, hfs, hfn, hfn', s0, s1, s2, s3, s4⟩ := SS.out.sub (rc.subj, b) hbM
      have s0' := hk.cellS s0 (fun h => h)
      have HK := Lib.hid hk
      clear hx hls hfs hfn hfn' s1 s2 s3 s4 hk
      rcases Nat.eq_zero_or_pos h.mp with h0 | h0
      · rw [h0] at c31'
        have c31' : wz.cell? ⟨ms, 31, none⟩ = some (.int .i64 0) := c31'
        go_wp2_with fail
        go_quiet (fail)
        go_wp2_with fail
        refine h5 _ _ _ _ _ _ _ _ _ _ _ _ _ _ _ _ _ _ _ _ _ _ _ _ _ _ _ _ _ _ _ _ _ _ _ _ _ _ _ _ _ _ _ _ _ _ _ _ _ _ _ _ _ _ _ _ _ _ _ _ _ _ _ _ _ _ _ _ _ _ _ _ _ _ _ _ _ _ _ _ _ _ _ _ _ _ _ _ _ _ _ _ _ _ _ _ _ _ _ _ _ _ _ _ _ _ _ _ _ _ _ _ _ _ _ _ _ _ _ _ _ _ _ _ _ _ _ _ _ _ _ _ _ _ _ _ _ _ _ _ _ _ _ _ _ _ _ _ _ _ _ _ _ _ _ _ _ _ _ _ _ _ _ _ _ _ _ _ _ _ _ _ _ _ _ _ _ _ _ _ _ _ _ _ _ _ _ _ _ _ _ _ _ _ _ _ _ _ _ _ _ _ _ _ _ _ _ _ _ _ _ _ _ _ _ _ _ _ _ _ _ _ _ _ _ _ _ _ _ _ _ _ _ _ _ _ _ _ _ _ _ _ _ _ _ _ _ _ _ _ _ _ _ _ _ _ _ _ _ _ _ _ _ _ _ _ _ _ _ _ _ _ _ _ _ _ _ _ _ _ _ _ _ _ _ _ _ _ _ _ _ _ _ _ _ _ _ _ _ _ _ _ _ _ _ _ _ _ _ _ _ _ _ _ _ _ _ _ _ _ _ _ _ _ _ _ _ _ _ _ _ _ _ _ _ _ _ _ _ _ _ _ _ _ _ _ _ _ _ _ _ _ _ _ _ (HK.out.drewN _) (.inl ⟨b, hbM, rfl⟩) (fun _ => rfl)
      · have hpos : (0 : Int) < (h.mp : Int) := by omega
        go_wp2_with fail
        go_quiet (fail)
        go_wp2_with fail
        refine h5 _ _ _ _ _ _ _ _ _ _ _ _ _ _ _ _ _ _ _ _ _ _ _ _ _ _ _ _ _ _ _ _ _ _ _ _ _ _ _ _ _ _ _ _ _ _ _ _ _ _ _ _ _ _ _ _ _ _ _ _ _ _ _ _ _ _ _ _ _ _ _ _ _ _ _ _ _ _ _ _ _ _ _ _ _ _ _ _ _ _ _ _ _ _ _ _ _ _ _ _ _ _ _ _ _ _ _ _ _ _ _ _ _ _ _ _ _ _ _ _ _ _ _ _ _ _ _ _ _ _ _ _ _ _ _ _ _ _ _ _ _ _ _ _ _ _ _ _ _ _ _ _ _ _ _ _ _ _ _ _ _ _ _ _ _ _ _ _ _ _ _ _ _ _ _ _ _ _ _ _ _ _ _ _ _ _ _ _ _ _ _ _ _ _ _ _ _ _ _ _ _ _ _ _ _ _ _ _ _ _ _ _ _ _ _ _ _ _ _ _ _ _ _ _ _ _ _ _ _ _ _ _ _ _ _ _ _ _ _ _ _ _ _ _ _ _ _ _ _ _ _ _ _ _ _ _ _ _ _ _ _ _ _ _ _ _ _ _ _ _ _ _ _ _ _ _ _ _ _ _ _ _ _ _ _ _ _ _ _ _ _ _ _ _ _ _ _ _ _ _ _ _ _ _ _ _ _ _ _ _ _ _ _ _ _ _ _ _ _ _ _ _ _ _ _ _ _ _ _ _ _ _ _ _ _ _ _ _ _ _ _ _ _ _ _ _ _ _ _ _ _ _ _ _ _ (HK.out.drewN _) (.inl ⟨b, hbM, rfl⟩) (fun hd => by have := SS.out.mode; omega)
    · have HK := Lib.hid hk
      clear hk
      go_wp2_with fail
      refine h5 _ _ _ _ _ _ _ _ _ _ _ _ _ _ _ _ _ _ _ _ _ _ _ _ _ _ _ _ _ _ _ _ _ _ _ _ _ _ _ _ _ _ _ _ _ _ _ _ _ _ _ _ _ _ _ _ _ _ _ _ _ _ _ _ _ _ _ _ _ _ _ _ _ _ _ _ _ _ _ _ _ _ _ _ _ _ _ _ _ _ _ _ _ _ _ _ _ _ _ _ _ _ _ _ _ _ _ _ _ _ _ _ _ _ _ _ _ _ _ _ _ _ _ _ _ _ _ _ _ _ _ _ _ _ _ _ _ _ _ _ _ _ _ _ _ _ _ _ _ _ _ _ _ _ _ _ _ _ _ _ _ _ _ _ _ _ _ _ _ _ _ _ _ _ _ _ _ _ _ _ _ _ _ _ _ _ _ _ _ _ _ _ _ _ _ _ _ _ _ _ _ _ _ _ _ _ _ _ _ _ _ _ _ _ _ _ _ _ _ _ _ _ _ _ _ _ _ _ _ _ _ _ _ _ _ _ _ _ _ _ _ _ _ _ _ _ _ _ _ _ _ _ _ _ _ _ _ _ _ _ _ _ _ _ _ _ _ _ _ _ _ _ _ _ _ _ _ _ _ _ _ _ _ _ _ _ _ _ _ _ _ _ _ _ _ _ _ _ _ _ _ _ _ _ _ _ _ _ _ _ _ _ _ _ _ _ _ _ _ _ _ _ _ _ _ _ _ _ _ _ _ _ _ _ _ _ _ _ _ _ _ _ _ _ _ _ _ _ _ _ _ _ _ _ _ HK.out (.inr ⟨hnM, rfl⟩) (fun _ => rfl)


end Go.Proofs.YtmblkpjnafgplaaGreatDoor

namespace Go.Proofs.YtmblkpjnafgplaaGreatDoor
open Go Go.RowKit
set_option maxRecDepth 100000
set_option linter.unusedVariables false
set_option linter.unusedSimpArgs false

set_option maxHeartbeats 4000000 in
set_option maxRecDepth 1000000 in
theorem st20 {R : Ending → World → Prop} {ms : Nat} {rc : Rec} {Ah Ad : Option Addr} {ch cd : Nat} {u4 u8 u9 u10 u11 u12 u13 u14 u15 u17 u18 u19 u20 u21 u22 u23 u24 u25 u26 u27 u28 u29 u30 u31 u32 u33 u34 u35 u36 u37 u38 u39 u40 u41 u42 u43 u44 u45 u46 u47 u48 u49 u50 u51 u52 u53 u54 u55 u56 u57 u58 u59 u60 u61 u62 u63 u64 u65 u66 u67 u68 u69 u70 u71 u72 u73 u74 u75 u76 u77 u78 u79 u80 u81 u82 u83 u84 u85 u86 u87 u88 u89 u90 u91 u92 u93 u94 u95 u96 u97 u98 u99 u100 u101 u102 u103 u104 u105 u106 u107 u108 u109 u110 u111 u112 u113 u114 u115 u116 u117 u118 u119 u120 u121 u122 u123 u124 u125 u126 u127 u128 u129 u130 u131 u132 u133 u134 u135 u136 u137 u138 u139 u140 u141 u142 u143 u144 u145 u146 u147 u148 u149 u150 u151 u152 u153 u154 u155 u156 u157 u158 u159 u160 u161 u162 u163 u164 u165 u166 u167 u168 u169 u170 u171 u172 u173 u174 u175 u176 u177 u178 u179 u180 u181 u182 u183 u184 u185 u186 u187 u188 u189 u190 u191 u192 u193 u194 u195 u196 u197 u198 u199 u200 u201 u202 u203 u204 u205 u206 u207 u208 u209 u210 u211 u212 u213 u214 u215 u216 u217 u218 u219 u220 u221 u222 u223 u224 u225 u226 u227 u228 u229 u230 u231 u232 u233 u234 u235 u236 u237 u238 u239 u240 u241 u242 u243 u244 u245 u246 u247 u248 u249 u250 u251 u252 u253 u254 u255 u256 u257 u258 u259 u260 u261 u262 u263 u264 u265 u266 u267 u268 u269 u270 u271 u272 u273 u274 u275 u276 u277 u278 u279 u280 u281 u282 u283 u284 u285 u286 u287 u288 u289 u290 u291 u292 u293 u294 u295 u296 u297 u298 u299 u300 u301 u302 u303 u304 u305 u306 u307 u308 u309 u310 u311 u312 u313 u314 u315 u316 u317 u318 u319 u320 u321 u322 u323 u324 u325 u326 u327 u328 u329 u330 u331 u332 u333 u334 u335 u336 u337 u338 u339 u340 u341 u342 u343 u344 u345 u346 u347 u348 u349 u350 u351 u352 u353 u354 u355 u356 u357 u358 u359 u360 u361 u362 : Value} {wx : World} {h2 : Hd} (hb : Blk wx ms 87 h2.cells) (hd : (h2.disc = 0 ∧ h2.mm = 0) ∨ h2.disc = 1) (hR : ∀ q, R (.returned .nilIface) (wx.drewN q)) :
    Code.wp Tryz.prog (sT 20) (bodyPost Tryz.prog Tryz.f61 R) ⟨#[.pointer (some ⟨ms, 0, none⟩), str rc.subj, .slice Ah rc.hdr.length ch, .slice Ad rc.dat.length cd, u4, .int .i64 rc.ts, .int .i64 0, .bool true, u8, u9, u10, u11, u12, u13, u14, u15, .nilIface, u17, u18, u19, u20, u21, u22, u23, u24, u25, u26, u27, u28, u29, u30, u31, u32, u33, u34, u35, u36, u37, u38, u39, u40, u41, u42, u43, u44, u45, u46, u47, u48, u49, u50, u51, u52, u53, u54, u55, u56, u57, u58, u59, u60, u61, u62, u63, u64, u65, u66, u67, u68, u69, u70, u71, u72, u73, u74, u75, u76, u77, u78, u79, u80, u81, u82, u83, u84, u85, u86, u87, u88, u89, u90, u91, u92, u93, u94, u95, u96, u97, u98, u99, u100, u101, u102, u103, u104, u105, u106, u107, u108, u109, u110, u111, u112, u113, u114, u115, u116, u117, u118, u119, u120, u121, u122, u123, u124, u125, u126, u127, u128, u129, u130, u131, u132, u133, u134, u135, u136, u137, u138, u139, u140, u141, u142, u143, u144, u145, u146, u147, u148, u149, u150, u151, u152, u153, u154, u155, u156, u157, u158, u159, u160, u161, u162, u163, u164, u165, u166, u167, u168, u169, u170, u171, u172, u173, u174, u175, u176, u177, u178, u179, u180, u181, u182, u183, u184, u185, u186, u187, u188, u189, u190, u191, u192, u193, u194, u195, u196, u197, u198, u199, u200, u201, u202, u203, u204, u205, u206, u207, u208, u209, u210, u211, u212, u213, u214, u215, u216, u217, u218, u219, u220, u221, u222, u223, u224, u225, u226, u227, u228, u229, u230, u231, u232, u233, u234, u235, u236, u237, u238, u239, u240, u241, u242, u243, u244, u245, u246, u247, u248, u249, u250, u251, u252, u253, u254, u255, u256, u257, u258, u259, u260, u261, u262, u263, u264, u265, u266, u267, u268, u269, u270, u271, u272, u273, u274, u275, u276, u277, u278, u279, u280, u281, u282, u283, u284, u285, u286, u287, u288, u289, u290, u291, u292, u293, u294, u295, u296, u297, u298, u299, u300, u301, u302, u303, u304, u305, u306, u307, u308, u309, u310, u311, u312, u313, u314, u315, u316, u317, u318, u319, u320, u321, u322, u323, u324, u325, u326, u327, u328, u329, u330, u331, u332, u333, u334, u335, u336, u337, u338, u339, u340, u341, u342, u343, u344, u345, u346, u347, u348, u349, u350, u351, u352, u353, u354, u355, u356, u357, u358, u359, u360, u361, u362], []⟩ wx := by
  refine wp_seq_of (show sT 20 = .seq (sH 20) (sT 21) from rfl) fun K hK => ?_
  conv => arg 2; whnf
  go_wp2_with fail
  refine (enfMsg_any hb hd).mono ?_
  rintro e w1 ⟨rfl, q, rfl⟩
  go_wp2_with fail
  refine wp_seq_of (show sT 21 = .seq (sH 21) (sT 22) from rfl) fun K hK => ?_
  conv => arg 2; whnf
  go_wp2_with fail
  refine (enfBytes_any (w := wx.drewN q) (hb := hb) (hd.imp (fun h => h.1) (fun h => h))).mono ?_
  rintro e w1 ⟨rfl, q', rfl⟩
  go_wp2_with fail
  conv => arg 2; whnf
  go_wp2_with fail
  exact hR _


end Go.Proofs.YtmblkpjnafgplaaGreatDoor

namespace Go.Proofs.YtmblkpjnafgplaaGreatDoor
open Go Go.RowKit
set_option maxRecDepth 100000
set_option linter.unusedVariables false
set_option linter.unusedSimpArgs false

set_option maxRecDepth 1000000 in
/-- what is asked of the text from statement 19 on -/
def Cont19 (R : Ending → World → Prop) (w : World) (ms : Nat) (h : Hd) (its : List Item) (M : List Ent) (F : List Nat) (rc : Rec) (Ah Ad : Option Addr) (ch cd : Nat) (s17 : Value) : Prop :=
  ∀ (wy : World) (u8 u9 u10 u11 u12 u13 u14 u15 u18 u19 u20 u21 u22 u23 u24 u25 u26 u27 u28 u29 u30 u31 u32 u33 u34 u35 u36 u37 u38 u39 u40 u41 u42 u43 u44 u45 u46 u47 u48 u49 u50 u51 u52 u53 u54 u55 u56 u57 u58 u59 u60 u61 u62 u63 u64 u65 u66 u67 u68 u69 u70 u71 u72 u73 u74 u75 u76 u77 u78 u79 u80 u81 u82 u83 u84 u85 u86 u87 u88 u89 u90 u91 u92 u93 u94 u95 u96 u97 u98 u99 u100 u101 u102 u103 u104 u105 u106 u107 u108 u109 u110 u111 u112 u113 u114 u115 u116 u117 u118 u119 u120 u121 u122 u123 u124 u125 u126 u127 u128 u129 u130 u131 u132 u133 u134 u135 u136 u137 u138 u139 u140 u141 u142 u143 u144 u145 u146 u147 u148 u149 u150 u151 u152 u153 u154 u155 u156 u157 u158 u159 u160 u161 u162 u163 u164 u165 u166 u167 u168 u169 u170 u171 u172 u173 u174 u175 u176 u177 u178 u179 u180 u181 u182 u183 u184 u185 u186 u187 u188 u189 u190 u191 u192 u193 u194 u195 u196 u197 u198 u199 u200 u201 u202 u203 u204 u205 u206 u207 u208 u209 u210 u211 u212 u213 u214 u215 u216 u217 u218 u219 u220 u221 u222 u223 u224 u225 u226 u227 u228 u229 u230 u231 u232 u233 u234 u235 u236 u237 u238 u239 u240 u241 u242 u243 u244 u245 u246 u247 u248 u249 u250 u251 u252 u253 u254 u255 u256 u257 u258 u259 u260 u261 u262 u263 u264 u265 u266 u267 u268 u269 u270 u271 u272 u273 u274 u275 u276 u277 u278 u279 u280 u281 u282 u283 u284 u285 u286 u287 u288 u289 u290 u291 u292 u293 u294 u295 u296 u297 u298 u299 u300 u301 u302 u303 u304 u305 u306 u307 u308 u309 u310 u311 u312 u313 u314 u315 u316 u317 u318 u319 u320 u321 u322 u323 u324 u325 u326 u327 u328 u329 u330 u331 u332 u333 u334 u335 u336 u337 u338 u339 u340 u341 u342 u343 u344 u345 u346 u347 u348 u349 u350 u351 u352 u353 u354 u355 u356 u357 u358 u359 u360 u361 u362 : Value) (h2 : Hd) (b : Nat), Mid w wy ms h its M F rc h2 b → Code.wp Tryz.prog (sT 19) (bodyPost Tryz.prog Tryz.f61 R) ⟨#[.pointer (some ⟨ms, 0, none⟩), str rc.subj, .slice Ah rc.hdr.length ch, .slice Ad rc.dat.length cd, .int .u64 ((h.n + 1 : Nat) : Int), .int .i64 rc.ts, .int .i64 0, .bool true, u8, u9, u10, u11, u12, u13, u14, u15, .nilIface, s17, u18, u19, u20, u21, u22, u23, u24, u25, u26, u27, u28, u29, u30, u31, u32, u33, u34, u35, u36, u37, u38, u39, u40, u41, u42, u43, u44, u45, u46, u47, u48, u49, u50, u51, u52, u53, u54, u55, u56, u57, u58, u59, u60, u61, u62, u63, u64, u65, u66, u67, u68, u69, u70, u71, u72, u73, u74, u75, u76, u77, u78, u79, u80, u81, u82, u83, u84, u85, u86, u87, u88, u89, u90, u91, u92, u93, u94, u95, u96, u97, u98, u99, u100, u101, u102, u103, u104, u105, u106, u107, u108, u109, u110, u111, u112, u113, u114, u115, u116, u117, u118, u119, u120, u121, u122, u123, u124, u125, u126, u127, u128, u129, u130, u131, u132, u133, u134, u135, u136, u137, u138, u139, u140, u141, u142, u143, u144, u145, u146, u147, u148, u149, u150, u151, u152, u153, u154, u155, u156, u157, u158, u159, u160, u161, u162, u163, u164, u165, u166, u167, u168, u169, u170, u171, u172, u173, u174, u175, u176, u177, u178, u179, u180, u181, u182, u183, u184, u185, u186, u187, u188, u189, u190, u191, u192, u193, u194, u195, u196, u197, u198, u199, u200, u201, u202, u203, u204, u205, u206, u207, u208, u209, u210, u211, u212, u213, u214, u215, u216, u217, u218, u219, u220, u221, u222, u223, u224, u225, u226, u227, u228, u229, u230, u231, u232, u233, u234, u235, u236, u237, u238, u239, u240, u241, u242, u243, u244, u245, u246, u247, u248, u249, u250, u251, u252, u253, u254, u255, u256, u257, u258, u259, u260, u261, u262, u263, u264, u265, u266, u267, u268, u269, u270, u271, u272, u273, u274, u275, u276, u277, u278, u279, u280, u281, u282, u283, u284, u285, u286, u287, u288, u289, u290, u291, u292, u293, u294, u295, u296, u297, u298, u299, u300, u301, u302, u303, u304, u305, u306, u307, u308, u309, u310, u311, u312, u313, u314, u315, u316, u317, u318, u319, u320, u321, u322, u323, u324, u325, u326, u327, u328, u329, u330, u331, u332, u333, u334, u335, u336, u337, u338, u339, u340, u341, u342, u343, u344, u345, u346, u347, u348, u349, u350, u351, u352, u353, u354, u355, u356, u357, u358, u359, u360, u361, u362], []⟩ wy

set_option maxHeartbeats 4000000 in
set_option maxRecDepth 1000000 in
theorem st15 {R : Ending → World → Prop} {ms : Nat} {rc : Rec} {Ah Ad : Option Addr} {ch cd : Nat} {u8 u9 u10 u11 u12 u13 u14 u15 u18 u19 u20 u21 u23 u24 u25 u26 u27 u28 u29 u30 u31 u32 u33 u34 u35 u36 u37 u38 u39 u40 u41 u42 u43 u44 u45 u46 u47 u48 u49 u50 u51 u52 u53 u54 u55 u56 u57 u58 u59 u60 u61 u62 u63 u64 u65 u66 u67 u68 u69 u70 u71 u72 u73 u74 u75 u76 u77 u78 u79 u80 u81 u82 u83 u84 u85 u86 u87 u88 u89 u90 u91 u92 u93 u94 u95 u96 u97 u98 u99 u100 u101 u102 u103 u104 u105 u106 u107 u108 u109 u110 u111 u112 u113 u114 u115 u116 u117 u118 u119 u120 u121 u122 u123 u124 u125 u126 u127 u128 u129 u130 u131 u132 u133 u134 u135 u136 u137 u138 u139 u140 u141 u142 u143 u144 u145 u146 u147 u148 u149 u150 u151 u152 u153 u154 u155 u156 u157 u158 u159 u160 u161 u162 u163 u164 u165 u166 u167 u168 u169 u170 u171 u172 u173 u174 u175 u176 u177 u178 u179 u180 u181 u182 u183 u184 u185 u186 u187 u188 u189 u190 u191 u192 u193 u194 u195 u196 u197 u198 u199 u200 u201 u202 u203 u204 u205 u206 u207 u208 u209 u210 u211 u212 u213 u214 u215 u216 u217 u218 u219 u220 u221 u222 u223 u224 u225 u226 u227 u228 u229 u230 u231 u232 u233 u234 u235 u236 u237 u238 u239 u240 u241 u242 u243 u244 u245 u246 u247 u248 u249 u250 u251 u252 u253 u254 u255 u256 u257 u258 u259 u260 u261 u262 u263 u264 u265 u266 u267 u268 u269 u270 u271 u272 u273 u274 u275 u276 u277 u278 u279 u280 u281 u282 u283 u284 u285 u286 u287 u288 u289 u290 u291 u292 u293 u294 u295 u296 u297 u298 u299 u300 u301 u302 u303 u304 u305 u306 u307 u308 u309 u310 u311 u312 u313 u314 u315 u316 u317 u318 u319 u320 u321 u322 u323 u324 u325 u326 u327 u328 u329 u330 u331 u332 u333 u334 u335 u336 u337 u338 u339 u340 u341 u342 u343 u344 u345 u346 u347 u348 u349 u350 u351 u352 u353 u354 u355 u356 u357 u358 u359 u360 u361 u362 : Value} {w wx : World} {h h1 : Hd} {its : List Item} {M : List Ent} {F : List Nat} {b : Nat} (S : StoreAt w ms h its M F) (hok : rc.Ok) (hn : h.n < 30) {s17 : Value} (m : Mid0 w wx ms h its M F rc h1 b) (h19 : Cont19 R w ms h its M F rc Ah Ad ch cd s17)  :
    Code.wp Tryz.prog (sT 15) (bodyPost Tryz.prog Tryz.f61 R) ⟨#[.pointer (some ⟨ms, 0, none⟩), str rc.subj, .slice Ah rc.hdr.length ch, .slice Ad rc.dat.length cd, .int .u64 ((h.n + 1 : Nat) : Int), .int .i64 rc.ts, .int .i64 0, .bool true, u8, u9, u10, u11, u12, u13, u14, u15, .nilIface, s17, u18, u19, u20, u21, .int .i64 rc.ts, u23, u24, u25, u26, u27, u28, u29, u30, u31, u32, u33, u34, u35, u36, u37, u38, u39, u40, u41, u42, u43, u44, u45, u46, u47, u48, u49, u50, u51, u52, u53, u54, u55, u56, u57, u58, u59, u60, u61, u62, u63, u64, u65, u66, u67, u68, u69, u70, u71, u72, u73, u74, u75, u76, u77, u78, u79, u80, u81, u82, u83, u84, u85, u86, u87, u88, u89, u90, u91, u92, u93, u94, u95, u96, u97, u98, u99, u100, u101, u102, u103, u104, u105, u106, u107, u108, u109, u110, u111, u112, u113, u114, u115, u116, u117, u118, u119, u120, u121, u122, u123, u124, u125, u126, u127, u128, u129, u130, u131, u132, u133, u134, u135, u136, u137, u138, u139, u140, u141, u142, u143, u144, u145, u146, u147, u148, u149, u150, u151, u152, u153, u154, u155, u156, u157, u158, u159, u160, u161, u162, u163, u164, u165, u166, u167, u168, u169, u170, u171, u172, u173, u174, u175, u176, u177, u178, u179, u180, u181, u182, u183, u184, u185, u186, u187, u188, u189, u190, u191, u192, u193, u194, u195, u196, u197, u198, u199, u200, u201, u202, u203, u204, u205, u206, u207, u208, u209, u210, u211, u212, u213, u214, u215, u216, u217, u218, u219, u220, u221, u222, u223, u224, u225, u226, u227, u228, u229, u230, u231, u232, u233, u234, u235, u236, u237, u238, u239, u240, u241, u242, u243, u244, u245, u246, u247, u248, u249, u250, u251, u252, u253, u254, u255, u256, u257, u258, u259, u260, u261, u262, u263, u264, u265, u266, u267, u268, u269, u270, u271, u272, u273, u274, u275, u276, u277, u278, u279, u280, u281, u282, u283, u284, u285, u286, u287, u288, u289, u290, u291, u292, u293, u294, u295, u296, u297, u298, u299, u300, u301, u302, u303, u304, u305, u306, u307, u308, u309, u310, u311, u312, u313, u314, u315, u316, u317, u318, u319, u320, u321, u322, u323, u324, u325, u326, u327, u328, u329, u330, u331, u332, u333, u334, u335, u336, u337, u338, u339, u340, u341, u342, u343, u344, u345, u346, u347, u348, u349, u350, u351, u352, u353, u354, u355, u356, u357, u358, u359, u360, u361, u362], []⟩ wx := by
  have c14 : wx.cell? ⟨ms, 14, none⟩ = some (.int .u64 (h.cnt : Int)) := by rw [m.hd.cell, ← m.adj.cnt]; rfl
  have f14 : wx.frozen? ⟨ms, 14, none⟩ = false := m.hd.frozen 14
  have hc30 : h.cnt ≤ 30 := by rw [S.cnt]; exact S.len
  have hsum : rc.subj.length + rc.hdr.length + rc.dat.length ≤ 2305843009213693952 := by have := hok.s1; have := hok.h1; have := hok.d1; omega
  have hby := S.byt
  have hby' := m.adj.byt
  have hs1 : rc.subj.length + rc.hdr.length + rc.dat.length + 16 ≤ 20000 := by have := hok.s1; have := hok.h1; have := hok.d1; omega
  have hms := fun w' => msgSize_any rc.subj Ah Ad rc.hdr.length ch rc.dat.length cd w' hsum
  generalize hsz : rc.subj.length + rc.hdr.length + rc.dat.length + 16 = sz at hms hs1
  obtain ⟨y1, y2⟩ := hby
  rw [← hby'] at y1 y2
  have hwr : IntKind.u64.wrap (h1.byt + (sz : Int)) = h1.byt + sz := IntWalk.u64_in _ (by omega)
  have y5 : 0 ≤ h1.byt + (sz : Int) ∧ h1.byt + (sz : Int) ≤ 20000 * ((h.n : Int) + 1) := by omega
  have MM := Lib.hid (And.intro m (And.intro S y5))
  have hb0 := Lib.hid m.hd
  clear hby' y1 y2 y5 m S
  refine wp_seq_of (show sT 15 = .seq (sH 15) (sT 16) from rfl) fun K hK => ?_
  conv => arg 2; whnf
  go_wp2_with fail
  refine wp_seq_of (show sT 16 = .seq (sH 16) (sT 17) from rfl) fun K hK => ?_
  conv => arg 2; whnf
  have hb1 := hb0.out.set_ 14 (.int .u64 ((h.cnt : Int) + 1))
  have hk1 := keep1 wx ms 14 (.int .u64 ((h.cnt : Int) + 1))
  generalize wx.setCell ⟨ms, 14, none⟩ (.int .u64 ((h.cnt : Int) + 1)) = W1 at hb1 hk1 ⊢
  have d15 : W1.cell? ⟨ms, 15, none⟩ = some (.int .u64 h1.byt) := by rw [hb1.cell]; rfl
  have g15 : W1.frozen? ⟨ms, 15, none⟩ = false := hb1.frozen 15
  go_region_with (first | (go_at_call 74; refine (hms _).mono ?_; rintro e w' ⟨rfl, rfl⟩))
  all_goals go_wp2_with fail
  all_goals change Code.wp _ _ _ _ ((W1.setCell ⟨ms, 15, none⟩ (.int .u64 (h1.byt + (sz : Int)))).drew)
  all_goals have hb2 : Blk ((W1.setCell ⟨ms, 15, none⟩ (.int .u64 (h1.byt + (sz : Int)))).drew) ms 87 _ := hb1.set_ 15 _
  all_goals have hk2 := (hk1.put rfl 15 (.int .u64 (h1.byt + (sz : Int)))).drew
  all_goals generalize (W1.setCell ⟨ms, 15, none⟩ (.int .u64 (h1.byt + (sz : Int)))).drew = W2 at hb2 hk2 ⊢
  all_goals have d18 : W2.cell? ⟨ms, 18, none⟩ = some (.int .u64 (h1.n : Int)) := by rw [hb2.cell]; rfl
  all_goals have d19 : W2.cell? ⟨ms, 19, none⟩ = some (.int .i64 h1.lt) := by rw [hb2.cell]; rfl
  all_goals have g18 : W2.frozen? ⟨ms, 18, none⟩ = false := hb2.frozen 18
  all_goals have g19 : W2.frozen? ⟨ms, 19, none⟩ = false := hb2.frozen 19
  all_goals have H3 := Lib.hid (And.intro hb2 hk2)
  all_goals clear hb2 hk2 hb1 hk1 d15 g15
  all_goals
    refine wp_seq_of (show sT 17 = .seq (sH 17) (sT 18) from rfl) fun K hK => ?_
    conv => arg 2; whnf
    go_wp2_with fail
    refine wp_seq_of (show sT 18 = .seq (sH 18) (sT 19) from rfl) fun K hK => ?_
    conv => arg 2; whnf
    go_wp2_with fail
    obtain ⟨m, S, y5⟩ := MM.out
    obtain ⟨hb2, hk2⟩ := H3.out
    refine h19 _ _ _ _ _ _ _ _ _ _ _ _ _ _ _ _ _ _ _ _ _ _ _ _ _ _ _ _ _ _ _ _ _ _ _ _ _ _ _ _ _ _ _ _ _ _ _ _ _ _ _ _ _ _ _ _ _ _ _ _ _ _ _ _ _ _ _ _ _ _ _ _ _ _ _ _ _ _ _ _ _ _ _ _ _ _ _ _ _ _ _ _ _ _ _ _ _ _ _ _ _ _ _ _ _ _ _ _ _ _ _ _ _ _ _ _ _ _ _ _ _ _ _ _ _ _ _ _ _ _ _ _ _ _ _ _ _ _ _ _ _ _ _ _ _ _ _ _ _ _ _ _ _ _ _ _ _ _ _ _ _ _ _ _ _ _ _ _ _ _ _ _ _ _ _ _ _ _ _ _ _ _ _ _ _ _ _ _ _ _ _ _ _ _ _ _ _ _ _ _ _ _ _ _ _ _ _ _ _ _ _ _ _ _ _ _ _ _ _ _ _ _ _ _ _ _ _ _ _ _ _ _ _ _ _ _ _ _ _ _ _ _ _ _ _ _ _ _ _ _ _ _ _ _ _ _ _ _ _ _ _ _ _ _ _ _ _ _ _ _ _ _ _ _ _ _ _ _ _ _ _ _ _ _ _ _ _ _ _ _ _ _ _ _ _ _ _ _ _ _ _ _ _ _ _ _ _ _ _ _ _ _ _ _ _ _ _ _ _ _ _ _ _ _ _ _ _ _ _ _ _ _ _ _ _ _ _ _ _ _ _ _ _ _ _ _ _ _ _ _ _ _ _ _ _ _ (m.up S ((hk2.put rfl 18 _).put rfl 19 _) ((hb2.set_ 18 _).set_ 19 _) (m.adj.next (h1.byt + (sz : Int)) rc.ts y5))


end Go.Proofs.YtmblkpjnafgplaaGreatDoor
