/- insert at an inner node: a child is added. PRINTED by wip/gen_ic.py. insert at an inner node: a child is added. PRINTED by wip/gen_ic.py. insert at an inner node that is full: it grows, and a child is added. PRINTED by wip/gen_ic.py. insert at an inner node that is full: it grows, and a child is added. PRINTED by wip/gen_ic.py. insert at an inner node: handed down to a child. PRINTED by wip/gen_ic.py. insert at an inner node: handed down to a child. PRINTED by wip/gen_ic.py. -/
import Derived.Test.YtmblkpjnafgplaaGreatDoorR05
import Derived.Deep.RegionHeld3
namespace Go.Proofs.YtmblkpjnafgplaaGreatDoor
open Go Go.RowKit
set_option maxRecDepth 100000
set_option linter.unusedVariables false
set_option linter.unusedSimpArgs false

set_option maxHeartbeats 4000000 in
set_option maxRecDepth 100000 in
theorem ins_add0 (tp : Value) (pb po : Nat) (A : Option Addr) (n c i : Nat) (s t : Bs) (k : NK) (b : Nat) (ks : List Kid) (x y z : Int) (p q : Bool) (Tp : TypeId) (Cp C : Array Value) (w : World)
    (hp : Blk w pb Tp Cp) (hv : Cp[po]? = some (.iface k.tp (.pointer (some ⟨b, 0, none⟩)))) (h : RowAt w 1 A n (s.map byteV)) (hn : n ≤ 2305843009213693952) (hnc : n ≤ c) (hi : i ≤ n)
    (hb : Blk w b k.ty C) (hC : InnerC k ([] : Bs) ks C) (hK : Kids w ks) (h0 : ks ≠ []) (hF : (Fof b ks).Nodup) (hpb : pb ∉ Fof b ks)
    (ht : s.drop i = t) (hfresh : ∀ c ∈ ks, c.key ≠ pv t) (hroom : ks.length < k.cap) :
    Calls Tryz.prog 187 #[tp, .pointer (some ⟨pb, po, none⟩), .slice A n c, ssa x y z p q, .int .i64 i] w (Inserted pb po Tp Cp (Mof ([] : Bs) ks) (Fof b ks) (s.drop i) (ssv x y z p q) w) := by
  have hl : s.length = n := by simpa using h.1
  have hlen : i ≤ n := hi
  have htd : s.drop i = t := ht
  have m1 := me_isLeaf k b
  have m2 := me_base k b
  have m3 := me_findChild k b
  have m4 := na_findChild k b
  have m5 := cf_find k
  have m6 := me_isFull k b
  have m7 := cf_full k
  have c0 : (boxed w x y z p q).cell? ⟨pb, po, none⟩ = some (.iface k.tp (.pointer (some ⟨b, 0, none⟩))) := cellOf (hp.alloc _) hv
  have hcut := cut_lo A n c i hi
  have cp : (boxed w x y z p q).cell? ⟨b, k.cap, none⟩ = some (str ([] : Bs)) := cellOf (hb.alloc _) hC.pre
  have hk0 : Keep NoB w (boxed w x y z p q) := (Keep.refl NoB w).alloc _
  have hltF := fun x hx => (hK.tnode hb hC h0).lt x hx
  have HALL := Lib.hid (And.intro hp (And.intro hv (And.intro h (And.intro hb (And.intro hC (And.intro hK (And.intro h0 (And.intro hF (And.intro hpb hltF)))))))))
  have HB := Lib.hid hb
  have HIC := Lib.hid hC
  have HT := Lib.hid (And.intro ht htd)
  have HX := Lib.hid hfresh
  have HL := Lib.hid hl
  have HK := Lib.hid hk0
  have HH := Lib.hid h
  have HVB : Hid (Blk (boxed w x y z p q) w.heap.size 112 #[.int .u64 x, .int .u64 y, .int .u64 z, .bool p, .bool q]) := Lib.hid (Blk.new w _ _)
  clear hp hv h hb hC hK h0 hF hpb ht htd hfresh hl hk0 hltF
  go_enter Tryz.func187, Tryz.ntmps187
  go_wp2_with (first | (go_at_call 342; refine (meta_isLeaf _ _).mono ?_; rintro e w' ⟨rfl, rfl⟩) | (go_at_call 341; refine (meta_base _ _ _).mono ?_; rintro e w' ⟨rfl, rfl⟩))
  clear m1 m2 c0
  change Code.wp _ _ _ _ (boxed w x y z p q)
  generalize boxed w x y z p q = W1 at *
  have V3 := HVB
  have HK3 := HK
  have cp' := cp
  clear cp
  obtain ⟨W3, hW3⟩ : ∃ W3, W3 = W1 := ⟨_, rfl⟩
  subst hW3
  have R3 := Lib.hid (HH.out.keep HK3.out (fun _ _ _ h => h))
  have hpiv : ∀ q, Calls Tryz.prog 184 #[.slice A n c, .int .i64 (i : Int)] (W3.drewN q) fun e w' => e = .returned (byteV (pv t)) ∧ w' = W3.drewN q := fun q => by
    have := pivot_any A n c i s (W3.drewN q) R3.out (by unfold maxLen; omega) (by unfold maxLen; omega)
    rw [HT.out.2] at this
    exact this.mono (fun e w' h => ⟨h.1, h.2.symm⟩)
  have hfc := fun q => (find_any k b (pv t) [] ks C (W3.drewN q) (HK3.out.blk HB.out (fun h => h)) HIC.out).mono (fun e w' h => found_no HX.out h)
  have HP := Lib.hid hpiv
  have HC := Lib.hid hfc
  clear hpiv hfc
  go_wp2_with fail
  go_quiet ((first | (go_at_call 184; exact (HP.out _).mono (fun _ _ h => ⟨h.1, _, h.2⟩)) | (with_reducible exact (HC.out _).mono (fun _ _ h => ⟨h.1, _, h.2⟩))))
  have HK4 := Lib.hid (HK3.out.drewN nq)
  have V4 := Lib.hid (show Blk (W3.drewN nq) w.heap.size 112 _ from V3.out)
  clear cp'
  generalize W3.drewN nq = W4 at *
  go_wp2_with fail
  refine (full_any k b [] ks C W4 (HK4.out.blk HB.out (fun h => h)) HIC.out).mono ?_
  rintro e w' ⟨rfl, rfl⟩
  rw [show decide (k.cap ≤ ks.length) = false from by simp; omega]
  have HRW := Lib.hid (HH.out.keep HK4.out (fun _ _ _ h => h))
  have v0 := cellOf V4.out (i := 0) rfl
  have v1 := cellOf V4.out (i := 1) rfl
  have v2 := cellOf V4.out (i := 2) rfl
  have v3 := cellOf V4.out (i := 3) rfl
  have v4 := cellOf V4.out (i := 4) rfl
  have hcut3 := cut_lo A n c i hlen
  
  obtain ⟨m, hm⟩ : ∃ m, m = n - i := ⟨_, rfl⟩
  obtain ⟨d, hd⟩ : ∃ d, d = c - i := ⟨_, rfl⟩
  rw [← hm, ← hd] at hcut3
  clear hcut
  have R4 : Hid (RowAt W4 1 (cutA A c i) m (t.map byteV)) := Lib.hid (by
    have := HRW.out.cut hlen hnc
    rwa [HT.out.2, ← hm] at this)
  have hpiv2 : ∀ w1, Keep NoB W4 w1 → Calls Tryz.prog 184 #[.slice A n c, .int .i64 (i : Int)] w1 fun e w' => e = .returned (byteV (pv t)) ∧ w1 = w' := fun w1 hk => by
    have := pivot_any A n c i s w1 (HRW.out.keep hk (fun _ _ _ h => h)) (by unfold maxLen; omega) (by unfold maxLen; omega)
    rwa [HT.out.2] at this
  have HP2 := Lib.hid hpiv2
  have HADD : Hid (∀ w1, Keep NoB W4 w1 → ∀ bl, Calls Tryz.prog (k).fAdd #[.pointer (some ⟨b, 0, none⟩), byteV (pv t), .iface 265 (.pointer (some ⟨bl, 0, none⟩))] w1 (Added k b C ks.length (pv t) (.iface 265 (.pointer (some ⟨bl, 0, none⟩))) w1)) :=
    Lib.hid fun w1 hk bl => add_any k b (pv t) 265 _ [] ks C w1 (hk.blk (HK4.out.blk HB.out (fun h => h)) (fun h => h)) HIC.out hroom
  clear hm hd hpiv2
  have hvb : ¬ w.heap.size = b := fun h => by have := HB.out.lt; have := (HK4.out.blk HB.out (fun h => h)).lt; omega
  have m8 := me_addChild k b
  have m9 := na_addChild k b
  have m10 := cf_add k
  go_wp2_with fail
  go_region_held3 (fun w' => w'.cell? ⟨w.heap.size, 0, none⟩ = some (.int .u64 x) ∧ w'.cell? ⟨w.heap.size, 1, none⟩ = some (.int .u64 y) ∧ w'.cell? ⟨w.heap.size, 2, none⟩ = some (.int .u64 z) ∧ w'.cell? ⟨w.heap.size, 3, none⟩ = some (.bool p) ∧ w'.cell? ⟨w.heap.size, 4, none⟩ = some (.bool q)) (first | exact ⟨v0, v1, v2, v3, v4⟩ | exact ⟨h5k.cellS v0 (fun h => h), h5k.cellS v1 (fun h => h), h5k.cellS v2 (fun h => h), h5k.cellS v3 (fun h => h), h5k.cellS v4 (fun h => h)⟩ | exact ⟨h6k.cellS (h5k.cellS v0 (fun h => h)) hvb, h6k.cellS (h5k.cellS v1 (fun h => h)) hvb, h6k.cellS (h5k.cellS v2 (fun h => h)) hvb, h6k.cellS (h5k.cellS v3 (fun h => h)) hvb, h6k.cellS (h5k.cellS v4 (fun h => h)) hvb⟩)
    (first | (go_at_call 184; (first | (with_reducible refine (HP2.out _ (Keep.refl NoB W4).drew).mono ?_) | (with_reducible refine (HP2.out _ ((Keep.refl NoB W4).drew.none_trans h5k)).mono ?_)); rintro e w5' ⟨rfl, rfl⟩) | (go_at_call 233; refine (newLeaf_any (cutA A c i) m d t x y z p q _ (R4.out.keep (Keep.refl NoB W4).drew (fun _ _ _ h => h))).mono ?_; rintro e w5 ⟨bl, rfl, hbz, hbl, h5k⟩) | ((with_reducible refine (HADD.out _ ((Keep.refl NoB W4).drew.none_trans h5k) bl).mono ?_); rintro e w6 ⟨rfl, h6b, h6k⟩))
  all_goals
    have hfin : Inserted pb po Tp Cp (Mof ([] : Bs) ks) (Fof b ks) (s.drop i) (ssv x y z p q) w (.returned (.tuple #[.pointer none, .bool false])) w6 := by
      obtain ⟨g1, g2, g3, g4, g5, g6, g7, g8, g9, g10⟩ := HALL.out
      have e5 : Keep NoB w w5 := HK4.out.drew.none_trans h5k
      have hbne : bl ≠ b := by have := g4.lt; have := HK4.out.size; simp only [World.size_drew] at hbz; omega
      have hpne : ¬ pb = b := fun h => g9 (by rw [h]; exact List.mem_cons_self)
      refine ⟨rfl, ?_⟩
      rw [show s.drop i = [] ++ t from HT.out.1]
      refine InsAt.add rfl g6 g7 g8 g9 g10 HX.out (((e5.mono (fun _ _ h => h.elim)).trans h6k (fun _ _ h => .inl h))) h6b (g5.add (leafKid t bl) hroom HX.out) (h6k.blk hbl (fun h => hbne h)) ?_ (.inl rfl) ?_
      · rw [set_same g2]
        exact h6k.blk (e5.blk g1 (fun h => h)) hpne
      · have := HK4.out.size; simp only [World.size_drew] at hbz; omega
    have HF := Lib.hid hfin
    clear hfin h6b h6k hbl h5k
    go_wp2
    go_ret2
    exact HF.out

end Go.Proofs.YtmblkpjnafgplaaGreatDoor

namespace Go.Proofs.YtmblkpjnafgplaaGreatDoor
open Go Go.RowKit
set_option maxRecDepth 100000
set_option linter.unusedVariables false
set_option linter.unusedSimpArgs false

set_option maxHeartbeats 4000000 in
set_option maxRecDepth 100000 in
theorem ins_addP (tp : Value) (pb po : Nat) (A : Option Addr) (n c i : Nat) (s t pr : Bs) (k : NK) (b : Nat) (ks : List Kid) (x y z : Int) (p q : Bool) (Tp : TypeId) (Cp C : Array Value) (w : World)
    (hp : Blk w pb Tp Cp) (hv : Cp[po]? = some (.iface k.tp (.pointer (some ⟨b, 0, none⟩)))) (h : RowAt w 1 A n (s.map byteV)) (hn : n ≤ 2305843009213693952) (hnc : n ≤ c) (hi : i ≤ n)
    (hb : Blk w b k.ty C) (hC : InnerC k pr ks C) (hK : Kids w ks) (h0 : ks ≠ []) (hF : (Fof b ks).Nodup) (hpb : pb ∉ Fof b ks)
    (hsl : pr.length ≤ 2305843009213693952) (hpr : 0 < pr.length) (ht : s.drop i = pr ++ t) (hfresh : ∀ c ∈ ks, c.key ≠ pv t) (hroom : ks.length < k.cap) :
    Calls Tryz.prog 187 #[tp, .pointer (some ⟨pb, po, none⟩), .slice A n c, ssa x y z p q, .int .i64 i] w (Inserted pb po Tp Cp (Mof pr ks) (Fof b ks) (s.drop i) (ssv x y z p q) w) := by
  have hl : s.length = n := by simpa using h.1
  have hlen : i + pr.length ≤ n := by have := congrArg List.length ht; simp at this; omega
  have htd : s.drop (i + pr.length) = t := by rw [← List.drop_drop, ht]; simp
  have m1 := me_isLeaf k b
  have m2 := me_base k b
  have m3 := me_findChild k b
  have m4 := na_findChild k b
  have m5 := cf_find k
  have m6 := me_isFull k b
  have m7 := cf_full k
  have c0 : (boxed w x y z p q).cell? ⟨pb, po, none⟩ = some (.iface k.tp (.pointer (some ⟨b, 0, none⟩))) := cellOf (hp.alloc _) hv
  have hcut := cut_lo A n c i hi
  have cp : (boxed w x y z p q).cell? ⟨b, k.cap, none⟩ = some (str pr) := cellOf (hb.alloc _) hC.pre
  have hk0 : Keep NoB w (boxed w x y z p q) := (Keep.refl NoB w).alloc _
  have hltF := fun x hx => (hK.tnode hb hC h0).lt x hx
  have HALL := Lib.hid (And.intro hp (And.intro hv (And.intro h (And.intro hb (And.intro hC (And.intro hK (And.intro h0 (And.intro hF (And.intro hpb hltF)))))))))
  have HB := Lib.hid hb
  have HIC := Lib.hid hC
  have HT := Lib.hid (And.intro ht htd)
  have HX := Lib.hid hfresh
  have HL := Lib.hid hl
  have HK := Lib.hid hk0
  have HH := Lib.hid h
  have HVB : Hid (Blk (boxed w x y z p q) w.heap.size 112 #[.int .u64 x, .int .u64 y, .int .u64 z, .bool p, .bool q]) := Lib.hid (Blk.new w _ _)
  clear hp hv h hb hC hK h0 hF hpb ht htd hfresh hl hk0 hltF
  go_enter Tryz.func187, Tryz.ntmps187
  go_wp2_with (first | (go_at_call 342; refine (meta_isLeaf _ _).mono ?_; rintro e w' ⟨rfl, rfl⟩) | (go_at_call 341; refine (meta_base _ _ _).mono ?_; rintro e w' ⟨rfl, rfl⟩))
  clear m1 m2 c0
  change Code.wp _ _ _ _ (boxed w x y z p q)
  generalize boxed w x y z p q = W1 at *
  go_region_with (first | (go_at_call 235; refine (stb_n pr pr.length _ (by omega) rfl).mono ?_; rintro e w2 ⟨A2, c2, rfl, h2c, h2r, h2b, h2k⟩) | (go_at_call 234; refine (cpl_any A2 (cutA A c i) pr.length c2 (n - i) (c - i) pr (s.drop i) w2 h2r (((HH.out.keep HK.out (fun _ _ _ h => h)).keep ((Keep.refl NoB W1).drew.none_trans h2k) (fun _ _ _ h => h)).cut hi hnc) (by unfold maxLen; omega) (by unfold maxLen; omega)).mono ?_; rintro e w3 ⟨rfl, k3, rfl⟩))
  rw [show cpl pr (s.drop i) = pr.length from by rw [HT.out.1, cpl_app]]
  have K3 : Keep NoB W1 (w2.drewN k3) := ((Keep.refl NoB W1).drew.none_trans h2k).drewN k3
  have K03 := HK.out.none_trans K3
  have V3 := Lib.hid (K3.blk HVB.out (fun h => h))
  have HK3 := Lib.hid K03
  have cp' := cellOf (K03.blk HB.out (fun h => h)) HIC.out.pre
  clear cp K3 K03 h2r h2b h2c h2k
  generalize w2.drewN k3 = W3 at *
  have R3 := Lib.hid (HH.out.keep HK3.out (fun _ _ _ h => h))
  have hpiv : ∀ q, Calls Tryz.prog 184 #[.slice A n c, .int .i64 ((i : Int) + (pr.length : Int))] (W3.drewN q) fun e w' => e = .returned (byteV (pv t)) ∧ w' = W3.drewN q := fun q => by
    have := pivot_any A n c (i + pr.length) s (W3.drewN q) R3.out (by unfold maxLen; omega) (by unfold maxLen; omega)
    rw [HT.out.2, Int.natCast_add] at this
    exact this.mono (fun e w' h => ⟨h.1, h.2.symm⟩)
  have hfc := fun q => (find_any k b (pv t) pr ks C (W3.drewN q) (HK3.out.blk HB.out (fun h => h)) HIC.out).mono (fun e w' h => found_no HX.out h)
  have HP := Lib.hid hpiv
  have HC := Lib.hid hfc
  clear hpiv hfc
  go_wp2_with fail
  go_quiet ((first | (go_at_call 184; exact (HP.out _).mono (fun _ _ h => ⟨h.1, _, h.2⟩)) | (with_reducible exact (HC.out _).mono (fun _ _ h => ⟨h.1, _, h.2⟩))))
  have HK4 := Lib.hid (HK3.out.drewN nq)
  have V4 := Lib.hid (show Blk (W3.drewN nq) w.heap.size 112 _ from V3.out)
  clear cp'
  generalize W3.drewN nq = W4 at *
  go_wp2_with fail
  refine (full_any k b pr ks C W4 (HK4.out.blk HB.out (fun h => h)) HIC.out).mono ?_
  rintro e w' ⟨rfl, rfl⟩
  rw [show decide (k.cap ≤ ks.length) = false from by simp; omega]
  have HRW := Lib.hid (HH.out.keep HK4.out (fun _ _ _ h => h))
  have v0 := cellOf V4.out (i := 0) rfl
  have v1 := cellOf V4.out (i := 1) rfl
  have v2 := cellOf V4.out (i := 2) rfl
  have v3 := cellOf V4.out (i := 3) rfl
  have v4 := cellOf V4.out (i := 4) rfl
  have hcut3 := cut_lo A n c (i + pr.length) hlen
  rw [Int.natCast_add] at hcut3
  obtain ⟨m, hm⟩ : ∃ m, m = n - (i + pr.length) := ⟨_, rfl⟩
  obtain ⟨d, hd⟩ : ∃ d, d = c - (i + pr.length) := ⟨_, rfl⟩
  rw [← hm, ← hd] at hcut3
  
  have R4 : Hid (RowAt W4 1 (cutA A c (i + pr.length)) m (t.map byteV)) := Lib.hid (by
    have := HRW.out.cut hlen hnc
    rwa [HT.out.2, ← hm] at this)
  have hpiv2 : ∀ w1, Keep NoB W4 w1 → Calls Tryz.prog 184 #[.slice A n c, .int .i64 ((i : Int) + (pr.length : Int))] w1 fun e w' => e = .returned (byteV (pv t)) ∧ w1 = w' := fun w1 hk => by
    have := pivot_any A n c (i + pr.length) s w1 (HRW.out.keep hk (fun _ _ _ h => h)) (by unfold maxLen; omega) (by unfold maxLen; omega)
    rwa [HT.out.2, Int.natCast_add] at this
  have HP2 := Lib.hid hpiv2
  have HADD : Hid (∀ w1, Keep NoB W4 w1 → ∀ bl, Calls Tryz.prog (k).fAdd #[.pointer (some ⟨b, 0, none⟩), byteV (pv t), .iface 265 (.pointer (some ⟨bl, 0, none⟩))] w1 (Added k b C ks.length (pv t) (.iface 265 (.pointer (some ⟨bl, 0, none⟩))) w1)) :=
    Lib.hid fun w1 hk bl => add_any k b (pv t) 265 _ pr ks C w1 (hk.blk (HK4.out.blk HB.out (fun h => h)) (fun h => h)) HIC.out hroom
  clear hm hd hpiv2
  have hvb : ¬ w.heap.size = b := fun h => by have := HB.out.lt; have := (HK4.out.blk HB.out (fun h => h)).lt; omega
  have m8 := me_addChild k b
  have m9 := na_addChild k b
  have m10 := cf_add k
  go_wp2_with fail
  go_region_held3 (fun w' => w'.cell? ⟨w.heap.size, 0, none⟩ = some (.int .u64 x) ∧ w'.cell? ⟨w.heap.size, 1, none⟩ = some (.int .u64 y) ∧ w'.cell? ⟨w.heap.size, 2, none⟩ = some (.int .u64 z) ∧ w'.cell? ⟨w.heap.size, 3, none⟩ = some (.bool p) ∧ w'.cell? ⟨w.heap.size, 4, none⟩ = some (.bool q)) (first | exact ⟨v0, v1, v2, v3, v4⟩ | exact ⟨h5k.cellS v0 (fun h => h), h5k.cellS v1 (fun h => h), h5k.cellS v2 (fun h => h), h5k.cellS v3 (fun h => h), h5k.cellS v4 (fun h => h)⟩ | exact ⟨h6k.cellS (h5k.cellS v0 (fun h => h)) hvb, h6k.cellS (h5k.cellS v1 (fun h => h)) hvb, h6k.cellS (h5k.cellS v2 (fun h => h)) hvb, h6k.cellS (h5k.cellS v3 (fun h => h)) hvb, h6k.cellS (h5k.cellS v4 (fun h => h)) hvb⟩)
    (first | (go_at_call 184; (first | (with_reducible refine (HP2.out _ (Keep.refl NoB W4).drew).mono ?_) | (with_reducible refine (HP2.out _ ((Keep.refl NoB W4).drew.none_trans h5k)).mono ?_)); rintro e w5' ⟨rfl, rfl⟩) | (go_at_call 233; refine (newLeaf_any (cutA A c (i + pr.length)) m d t x y z p q _ (R4.out.keep (Keep.refl NoB W4).drew (fun _ _ _ h => h))).mono ?_; rintro e w5 ⟨bl, rfl, hbz, hbl, h5k⟩) | ((with_reducible refine (HADD.out _ ((Keep.refl NoB W4).drew.none_trans h5k) bl).mono ?_); rintro e w6 ⟨rfl, h6b, h6k⟩))
  all_goals
    have hfin : Inserted pb po Tp Cp (Mof pr ks) (Fof b ks) (s.drop i) (ssv x y z p q) w (.returned (.tuple #[.pointer none, .bool false])) w6 := by
      obtain ⟨g1, g2, g3, g4, g5, g6, g7, g8, g9, g10⟩ := HALL.out
      have e5 : Keep NoB w w5 := HK4.out.drew.none_trans h5k
      have hbne : bl ≠ b := by have := g4.lt; have := HK4.out.size; simp only [World.size_drew] at hbz; omega
      have hpne : ¬ pb = b := fun h => g9 (by rw [h]; exact List.mem_cons_self)
      refine ⟨rfl, ?_⟩
      rw [HT.out.1]
      refine InsAt.add rfl g6 g7 g8 g9 g10 HX.out (((e5.mono (fun _ _ h => h.elim)).trans h6k (fun _ _ h => .inl h))) h6b (g5.add (leafKid t bl) hroom HX.out) (h6k.blk hbl (fun h => hbne h)) ?_ (.inl rfl) ?_
      · rw [set_same g2]
        exact h6k.blk (e5.blk g1 (fun h => h)) hpne
      · have := HK4.out.size; simp only [World.size_drew] at hbz; omega
    have HF := Lib.hid hfin
    clear hfin h6b h6k hbl h5k
    go_wp2
    go_ret2
    exact HF.out

end Go.Proofs.YtmblkpjnafgplaaGreatDoor

namespace Go.Proofs.YtmblkpjnafgplaaGreatDoor
open Go Go.RowKit
set_option maxRecDepth 100000
set_option linter.unusedVariables false
set_option linter.unusedSimpArgs false

set_option maxHeartbeats 4000000 in
set_option maxRecDepth 100000 in
theorem ins_grow0 (tp : Value) (pb po : Nat) (A : Option Addr) (n c i : Nat) (s t : Bs) (k : NK) (b : Nat) (ks : List Kid) (x y z : Int) (p q : Bool) (Tp : TypeId) (Cp C : Array Value) (w : World)
    (hp : Blk w pb Tp Cp) (hv : Cp[po]? = some (.iface k.tp (.pointer (some ⟨b, 0, none⟩)))) (h : RowAt w 1 A n (s.map byteV)) (hn : n ≤ 2305843009213693952) (hnc : n ≤ c) (hi : i ≤ n)
    (hb : Blk w b k.ty C) (hC : InnerC k ([] : Bs) ks C) (hK : Kids w ks) (h0 : ks ≠ []) (hF : (Fof b ks).Nodup) (hpb : pb ∉ Fof b ks)
    (ht : s.drop i = t) (hfresh : ∀ c ∈ ks, c.key ≠ pv t) (hfull : ks.length = k.cap) (hk48 : k ≠ .n48) (hA : ∀ k, blkOf A k → k ∉ Fof b ks ∧ k ≠ pb) :
    Calls Tryz.prog 187 #[tp, .pointer (some ⟨pb, po, none⟩), .slice A n c, ssa x y z p q, .int .i64 i] w (Inserted pb po Tp Cp (Mof ([] : Bs) ks) (Fof b ks) (s.drop i) (ssv x y z p q) w) := by
  have hl : s.length = n := by simpa using h.1
  have hlen : i ≤ n := hi
  have htd : s.drop i = t := ht
  have m1 := me_isLeaf k b
  have m2 := me_base k b
  have m3 := me_findChild k b
  have m4 := na_findChild k b
  have m5 := cf_find k
  have m6 := me_isFull k b
  have m7 := cf_full k
  have c0 : (boxed w x y z p q).cell? ⟨pb, po, none⟩ = some (.iface k.tp (.pointer (some ⟨b, 0, none⟩))) := cellOf (hp.alloc _) hv
  have hcut := cut_lo A n c i hi
  have cp : (boxed w x y z p q).cell? ⟨b, k.cap, none⟩ = some (str ([] : Bs)) := cellOf (hb.alloc _) hC.pre
  have hk0 : Keep NoB w (boxed w x y z p q) := (Keep.refl NoB w).alloc _
  have hltF := fun x hx => (hK.tnode hb hC h0).lt x hx
  have HALL := Lib.hid (And.intro hp (And.intro hv (And.intro h (And.intro hb (And.intro hC (And.intro hK (And.intro h0 (And.intro hF (And.intro hpb hltF)))))))))
  have HB := Lib.hid hb
  have HIC := Lib.hid hC
  have HT := Lib.hid (And.intro ht htd)
  have HX := Lib.hid hfresh
  have HL := Lib.hid hl
  have HK := Lib.hid hk0
  have HH := Lib.hid h
  have HVB : Hid (Blk (boxed w x y z p q) w.heap.size 112 #[.int .u64 x, .int .u64 y, .int .u64 z, .bool p, .bool q]) := Lib.hid (Blk.new w _ _)
  have hroom2 : ks.length < k.next.cap := by have := k.next_cap hk48; omega
  clear hp hv h hb hC hK h0 hF hpb ht htd hfresh hl hk0 hltF
  go_enter Tryz.func187, Tryz.ntmps187
  go_wp2_with (first | (go_at_call 342; refine (meta_isLeaf _ _).mono ?_; rintro e w' ⟨rfl, rfl⟩) | (go_at_call 341; refine (meta_base _ _ _).mono ?_; rintro e w' ⟨rfl, rfl⟩))
  clear m1 m2 c0
  change Code.wp _ _ _ _ (boxed w x y z p q)
  generalize boxed w x y z p q = W1 at *
  have V3 := HVB
  have HK3 := HK
  have cp' := cp
  clear cp
  obtain ⟨W3, hW3⟩ : ∃ W3, W3 = W1 := ⟨_, rfl⟩
  subst hW3
  have R3 := Lib.hid (HH.out.keep HK3.out (fun _ _ _ h => h))
  have hpiv : ∀ q, Calls Tryz.prog 184 #[.slice A n c, .int .i64 (i : Int)] (W3.drewN q) fun e w' => e = .returned (byteV (pv t)) ∧ w' = W3.drewN q := fun q => by
    have := pivot_any A n c i s (W3.drewN q) R3.out (by unfold maxLen; omega) (by unfold maxLen; omega)
    rw [HT.out.2] at this
    exact this.mono (fun e w' h => ⟨h.1, h.2.symm⟩)
  have hfc := fun q => (find_any k b (pv t) [] ks C (W3.drewN q) (HK3.out.blk HB.out (fun h => h)) HIC.out).mono (fun e w' h => found_no HX.out h)
  have HP := Lib.hid hpiv
  have HC := Lib.hid hfc
  clear hpiv hfc
  go_wp2_with fail
  go_quiet ((first | (go_at_call 184; exact (HP.out _).mono (fun _ _ h => ⟨h.1, _, h.2⟩)) | (with_reducible exact (HC.out _).mono (fun _ _ h => ⟨h.1, _, h.2⟩))))
  have HK4 := Lib.hid (HK3.out.drewN nq)
  have V4 := Lib.hid (show Blk (W3.drewN nq) w.heap.size 112 _ from V3.out)
  clear cp'
  generalize W3.drewN nq = W4 at *
  go_wp2_with fail
  refine (full_any k b [] ks C W4 (HK4.out.blk HB.out (fun h => h)) HIC.out).mono ?_
  rintro e w' ⟨rfl, rfl⟩
  rw [show decide (k.cap ≤ ks.length) = true from by simp; omega]
  have mg := me_grow k b
  have mc := cf_grow k
  go_wp2_with fail
  refine (grow_any k hk48 b [] ks C W4 (HK4.out.blk HB.out (fun h => h)) HIC.out hfull (fun c hc => (HALL.out.2.2.2.2.2.1.node c hc).isIface) HALL.out.2.2.2.2.2.1.apart).mono ?_
  rintro e wg ⟨b2, D, rfl, hb2z, hb2, hD, hgk⟩
  have Pg := hgk.blk (HK4.out.blk HALL.out.1 (fun h => h)) (fun h => h)
  have pg := cellOf Pg HALL.out.2.1
  have fg := Pg.frozen po
  have HWG : Hid (∀ v, v = Value.iface k.next.tp (.pointer (some ⟨b2, 0, none⟩)) → Blk (wg.setCell ⟨pb, po, none⟩ v) pb Tp (Cp.setIfInBounds po (.iface k.next.tp (.pointer (some ⟨b2, 0, none⟩)))) ∧ Blk (wg.setCell ⟨pb, po, none⟩ v) b2 k.next.ty D ∧ Keep (fun x => x = b ∨ x = pb) w (wg.setCell ⟨pb, po, none⟩ v) ∧ w.heap.size ≤ b2 ∧
      Blk (wg.setCell ⟨pb, po, none⟩ v) w.heap.size 112 #[.int .u64 x, .int .u64 y, .int .u64 z, .bool p, .bool q] ∧ RowAt (wg.setCell ⟨pb, po, none⟩ v) 1 A n (s.map byteV)) := by
    refine Lib.hid ?_
    rintro _ rfl
    have hz4 := HK4.out.size
    have hplt := HALL.out.1.lt
    have e1 := (HK4.out.none_trans hgk)
    have e2 : Keep (fun x => x = b ∨ x = pb) w (wg.setCell ⟨pb, po, none⟩ (.iface k.next.tp (.pointer (some ⟨b2, 0, none⟩)))) := (e1.mono (fun _ _ h => h.elim)).setCell (p := ⟨pb, po, none⟩) (fun _ => .inr rfl) _
    refine ⟨Pg.set_ po _, hb2.far (p := ⟨pb, po, none⟩) (by simp only; omega) _, e2, by omega, (hgk.blk V4.out (fun h => h)).far (p := ⟨pb, po, none⟩) (by simp only; omega) _, ?_⟩
    exact HH.out.keep e2 (fun k' hk' _ h => by rcases h with h | h; exact (hA k' hk').1 (by rw [h]; exact List.mem_cons_self); exact (hA k' hk').2 h)
  have HD2 := Lib.hid hD
  clear Pg hb2 hD hgk hb2z
  go_wp2_with fail
  have HQ := Lib.hid (HWG.out _ rfl)
  clear HWG pg fg
  generalize wg.setCell ⟨pb, po, none⟩ _ = W5 at *
  have HS := Lib.hid (And.intro HQ.out.1 (And.intro HQ.out.2.1 (And.intro HQ.out.2.2.1 HQ.out.2.2.2.1)))
  have V4 := Lib.hid HQ.out.2.2.2.2.1
  have HRW := Lib.hid HQ.out.2.2.2.2.2
  have v0 := cellOf V4.out (i := 0) rfl
  have v1 := cellOf V4.out (i := 1) rfl
  have v2 := cellOf V4.out (i := 2) rfl
  have v3 := cellOf V4.out (i := 3) rfl
  have v4 := cellOf V4.out (i := 4) rfl
  have hcut3 := cut_lo A n c i hlen
  
  obtain ⟨m, hm⟩ : ∃ m, m = n - i := ⟨_, rfl⟩
  obtain ⟨d, hd⟩ : ∃ d, d = c - i := ⟨_, rfl⟩
  rw [← hm, ← hd] at hcut3
  clear hcut
  have R4 : Hid (RowAt W5 1 (cutA A c i) m (t.map byteV)) := Lib.hid (by
    have := HRW.out.cut hlen hnc
    rwa [HT.out.2, ← hm] at this)
  have hpiv2 : ∀ w1, Keep NoB W5 w1 → Calls Tryz.prog 184 #[.slice A n c, .int .i64 (i : Int)] w1 fun e w' => e = .returned (byteV (pv t)) ∧ w1 = w' := fun w1 hk => by
    have := pivot_any A n c i s w1 (HRW.out.keep hk (fun _ _ _ h => h)) (by unfold maxLen; omega) (by unfold maxLen; omega)
    rwa [HT.out.2] at this
  have HP2 := Lib.hid hpiv2
  have HADD : Hid (∀ w1, Keep NoB W5 w1 → ∀ bl, Calls Tryz.prog (k.next).fAdd #[.pointer (some ⟨b2, 0, none⟩), byteV (pv t), .iface 265 (.pointer (some ⟨bl, 0, none⟩))] w1 (Added k.next b2 D ks.length (pv t) (.iface 265 (.pointer (some ⟨bl, 0, none⟩))) w1)) :=
    Lib.hid fun w1 hk bl => add_any k.next b2 (pv t) 265 _ [] ks D w1 (hk.blk HS.out.2.1 (fun h => h)) HD2.out hroom2
  clear hm hd hpiv2
  have hvb : ¬ w.heap.size = b2 := fun h => by exact absurd h (Blk.ne_ V4.out HS.out.2.1 (by cases k <;> decide))
  have m8 := me_addChild k.next b2
  have m9 := na_addChild k.next b2
  have m10 := cf_add k.next
  go_wp2_with fail
  go_region_held3 (fun w' => w'.cell? ⟨w.heap.size, 0, none⟩ = some (.int .u64 x) ∧ w'.cell? ⟨w.heap.size, 1, none⟩ = some (.int .u64 y) ∧ w'.cell? ⟨w.heap.size, 2, none⟩ = some (.int .u64 z) ∧ w'.cell? ⟨w.heap.size, 3, none⟩ = some (.bool p) ∧ w'.cell? ⟨w.heap.size, 4, none⟩ = some (.bool q)) (first | exact ⟨v0, v1, v2, v3, v4⟩ | exact ⟨h5k.cellS v0 (fun h => h), h5k.cellS v1 (fun h => h), h5k.cellS v2 (fun h => h), h5k.cellS v3 (fun h => h), h5k.cellS v4 (fun h => h)⟩ | exact ⟨h6k.cellS (h5k.cellS v0 (fun h => h)) hvb, h6k.cellS (h5k.cellS v1 (fun h => h)) hvb, h6k.cellS (h5k.cellS v2 (fun h => h)) hvb, h6k.cellS (h5k.cellS v3 (fun h => h)) hvb, h6k.cellS (h5k.cellS v4 (fun h => h)) hvb⟩)
    (first | (go_at_call 184; (first | (with_reducible refine (HP2.out _ (Keep.refl NoB W5).drew).mono ?_) | (with_reducible refine (HP2.out _ ((Keep.refl NoB W5).drew.none_trans h5k)).mono ?_)); rintro e w5' ⟨rfl, rfl⟩) | (go_at_call 233; refine (newLeaf_any (cutA A c i) m d t x y z p q _ (R4.out.keep (Keep.refl NoB W5).drew (fun _ _ _ h => h))).mono ?_; rintro e w5 ⟨bl, rfl, hbz, hbl, h5k⟩) | ((with_reducible refine (HADD.out _ ((Keep.refl NoB W5).drew.none_trans h5k) bl).mono ?_); rintro e w6 ⟨rfl, h6b, h6k⟩))
  all_goals
    have hfin : Inserted pb po Tp Cp (Mof ([] : Bs) ks) (Fof b ks) (s.drop i) (ssv x y z p q) w (.returned (.tuple #[.pointer none, .bool false])) w6 := by
      obtain ⟨g1, g2, g3, g4, g5, g6, g7, g8, g9, g10⟩ := HALL.out
      obtain ⟨s1, s2, s3, s4⟩ := HS.out
      have e5 : Keep (fun x => x = b ∨ x = pb) w w5 := s3.drew.none_trans h5k
      have hz := s3.size
      have hbne : bl ≠ b2 := by have := s2.lt; simp only [World.size_drew] at hbz; omega
      have hpne : ¬ pb = b2 := fun h => by have := g1.lt; omega
      refine ⟨rfl, ?_⟩
      rw [show s.drop i = [] ++ t from HT.out.1]
      refine InsAt.add rfl g6 g7 g8 g9 g10 HX.out (e5.trans h6k (fun x hx h => by omega)) h6b (HD2.out.add (leafKid t bl) hroom2 HX.out) (h6k.blk hbl (fun h => hbne h)) ?_ (.inr s4) ?_
      · exact h6k.blk (((Keep.refl NoB _).drew.none_trans h5k).blk s1 (fun h => h)) hpne
      · simp only [World.size_drew] at hbz; omega
    have HF := Lib.hid hfin
    clear hfin h6b h6k hbl h5k
    go_wp2
    go_ret2
    exact HF.out

end Go.Proofs.YtmblkpjnafgplaaGreatDoor

namespace Go.Proofs.YtmblkpjnafgplaaGreatDoor
open Go Go.RowKit
set_option maxRecDepth 100000
set_option linter.unusedVariables false
set_option linter.unusedSimpArgs false

set_option maxHeartbeats 4000000 in
set_option maxRecDepth 100000 in
theorem ins_growP (tp : Value) (pb po : Nat) (A : Option Addr) (n c i : Nat) (s t pr : Bs) (k : NK) (b : Nat) (ks : List Kid) (x y z : Int) (p q : Bool) (Tp : TypeId) (Cp C : Array Value) (w : World)
    (hp : Blk w pb Tp Cp) (hv : Cp[po]? = some (.iface k.tp (.pointer (some ⟨b, 0, none⟩)))) (h : RowAt w 1 A n (s.map byteV)) (hn : n ≤ 2305843009213693952) (hnc : n ≤ c) (hi : i ≤ n)
    (hb : Blk w b k.ty C) (hC : InnerC k pr ks C) (hK : Kids w ks) (h0 : ks ≠ []) (hF : (Fof b ks).Nodup) (hpb : pb ∉ Fof b ks)
    (hsl : pr.length ≤ 2305843009213693952) (hpr : 0 < pr.length) (ht : s.drop i = pr ++ t) (hfresh : ∀ c ∈ ks, c.key ≠ pv t) (hfull : ks.length = k.cap) (hk48 : k ≠ .n48) (hA : ∀ k, blkOf A k → k ∉ Fof b ks ∧ k ≠ pb) :
    Calls Tryz.prog 187 #[tp, .pointer (some ⟨pb, po, none⟩), .slice A n c, ssa x y z p q, .int .i64 i] w (Inserted pb po Tp Cp (Mof pr ks) (Fof b ks) (s.drop i) (ssv x y z p q) w) := by
  have hl : s.length = n := by simpa using h.1
  have hlen : i + pr.length ≤ n := by have := congrArg List.length ht; simp at this; omega
  have htd : s.drop (i + pr.length) = t := by rw [← List.drop_drop, ht]; simp
  have m1 := me_isLeaf k b
  have m2 := me_base k b
  have m3 := me_findChild k b
  have m4 := na_findChild k b
  have m5 := cf_find k
  have m6 := me_isFull k b
  have m7 := cf_full k
  have c0 : (boxed w x y z p q).cell? ⟨pb, po, none⟩ = some (.iface k.tp (.pointer (some ⟨b, 0, none⟩))) := cellOf (hp.alloc _) hv
  have hcut := cut_lo A n c i hi
  have cp : (boxed w x y z p q).cell? ⟨b, k.cap, none⟩ = some (str pr) := cellOf (hb.alloc _) hC.pre
  have hk0 : Keep NoB w (boxed w x y z p q) := (Keep.refl NoB w).alloc _
  have hltF := fun x hx => (hK.tnode hb hC h0).lt x hx
  have HALL := Lib.hid (And.intro hp (And.intro hv (And.intro h (And.intro hb (And.intro hC (And.intro hK (And.intro h0 (And.intro hF (And.intro hpb hltF)))))))))
  have HB := Lib.hid hb
  have HIC := Lib.hid hC
  have HT := Lib.hid (And.intro ht htd)
  have HX := Lib.hid hfresh
  have HL := Lib.hid hl
  have HK := Lib.hid hk0
  have HH := Lib.hid h
  have HVB : Hid (Blk (boxed w x y z p q) w.heap.size 112 #[.int .u64 x, .int .u64 y, .int .u64 z, .bool p, .bool q]) := Lib.hid (Blk.new w _ _)
  have hroom2 : ks.length < k.next.cap := by have := k.next_cap hk48; omega
  clear hp hv h hb hC hK h0 hF hpb ht htd hfresh hl hk0 hltF
  go_enter Tryz.func187, Tryz.ntmps187
  go_wp2_with (first | (go_at_call 342; refine (meta_isLeaf _ _).mono ?_; rintro e w' ⟨rfl, rfl⟩) | (go_at_call 341; refine (meta_base _ _ _).mono ?_; rintro e w' ⟨rfl, rfl⟩))
  clear m1 m2 c0
  change Code.wp _ _ _ _ (boxed w x y z p q)
  generalize boxed w x y z p q = W1 at *
  go_region_with (first | (go_at_call 235; refine (stb_n pr pr.length _ (by omega) rfl).mono ?_; rintro e w2 ⟨A2, c2, rfl, h2c, h2r, h2b, h2k⟩) | (go_at_call 234; refine (cpl_any A2 (cutA A c i) pr.length c2 (n - i) (c - i) pr (s.drop i) w2 h2r (((HH.out.keep HK.out (fun _ _ _ h => h)).keep ((Keep.refl NoB W1).drew.none_trans h2k) (fun _ _ _ h => h)).cut hi hnc) (by unfold maxLen; omega) (by unfold maxLen; omega)).mono ?_; rintro e w3 ⟨rfl, k3, rfl⟩))
  rw [show cpl pr (s.drop i) = pr.length from by rw [HT.out.1, cpl_app]]
  have K3 : Keep NoB W1 (w2.drewN k3) := ((Keep.refl NoB W1).drew.none_trans h2k).drewN k3
  have K03 := HK.out.none_trans K3
  have V3 := Lib.hid (K3.blk HVB.out (fun h => h))
  have HK3 := Lib.hid K03
  have cp' := cellOf (K03.blk HB.out (fun h => h)) HIC.out.pre
  clear cp K3 K03 h2r h2b h2c h2k
  generalize w2.drewN k3 = W3 at *
  have R3 := Lib.hid (HH.out.keep HK3.out (fun _ _ _ h => h))
  have hpiv : ∀ q, Calls Tryz.prog 184 #[.slice A n c, .int .i64 ((i : Int) + (pr.length : Int))] (W3.drewN q) fun e w' => e = .returned (byteV (pv t)) ∧ w' = W3.drewN q := fun q => by
    have := pivot_any A n c (i + pr.length) s (W3.drewN q) R3.out (by unfold maxLen; omega) (by unfold maxLen; omega)
    rw [HT.out.2, Int.natCast_add] at this
    exact this.mono (fun e w' h => ⟨h.1, h.2.symm⟩)
  have hfc := fun q => (find_any k b (pv t) pr ks C (W3.drewN q) (HK3.out.blk HB.out (fun h => h)) HIC.out).mono (fun e w' h => found_no HX.out h)
  have HP := Lib.hid hpiv
  have HC := Lib.hid hfc
  clear hpiv hfc
  go_wp2_with fail
  go_quiet ((first | (go_at_call 184; exact (HP.out _).mono (fun _ _ h => ⟨h.1, _, h.2⟩)) | (with_reducible exact (HC.out _).mono (fun _ _ h => ⟨h.1, _, h.2⟩))))
  have HK4 := Lib.hid (HK3.out.drewN nq)
  have V4 := Lib.hid (show Blk (W3.drewN nq) w.heap.size 112 _ from V3.out)
  clear cp'
  generalize W3.drewN nq = W4 at *
  go_wp2_with fail
  refine (full_any k b pr ks C W4 (HK4.out.blk HB.out (fun h => h)) HIC.out).mono ?_
  rintro e w' ⟨rfl, rfl⟩
  rw [show decide (k.cap ≤ ks.length) = true from by simp; omega]
  have mg := me_grow k b
  have mc := cf_grow k
  go_wp2_with fail
  refine (grow_any k hk48 b pr ks C W4 (HK4.out.blk HB.out (fun h => h)) HIC.out hfull (fun c hc => (HALL.out.2.2.2.2.2.1.node c hc).isIface) HALL.out.2.2.2.2.2.1.apart).mono ?_
  rintro e wg ⟨b2, D, rfl, hb2z, hb2, hD, hgk⟩
  have Pg := hgk.blk (HK4.out.blk HALL.out.1 (fun h => h)) (fun h => h)
  have pg := cellOf Pg HALL.out.2.1
  have fg := Pg.frozen po
  have HWG : Hid (∀ v, v = Value.iface k.next.tp (.pointer (some ⟨b2, 0, none⟩)) → Blk (wg.setCell ⟨pb, po, none⟩ v) pb Tp (Cp.setIfInBounds po (.iface k.next.tp (.pointer (some ⟨b2, 0, none⟩)))) ∧ Blk (wg.setCell ⟨pb, po, none⟩ v) b2 k.next.ty D ∧ Keep (fun x => x = b ∨ x = pb) w (wg.setCell ⟨pb, po, none⟩ v) ∧ w.heap.size ≤ b2 ∧
      Blk (wg.setCell ⟨pb, po, none⟩ v) w.heap.size 112 #[.int .u64 x, .int .u64 y, .int .u64 z, .bool p, .bool q] ∧ RowAt (wg.setCell ⟨pb, po, none⟩ v) 1 A n (s.map byteV)) := by
    refine Lib.hid ?_
    rintro _ rfl
    have hz4 := HK4.out.size
    have hplt := HALL.out.1.lt
    have e1 := (HK4.out.none_trans hgk)
    have e2 : Keep (fun x => x = b ∨ x = pb) w (wg.setCell ⟨pb, po, none⟩ (.iface k.next.tp (.pointer (some ⟨b2, 0, none⟩)))) := (e1.mono (fun _ _ h => h.elim)).setCell (p := ⟨pb, po, none⟩) (fun _ => .inr rfl) _
    refine ⟨Pg.set_ po _, hb2.far (p := ⟨pb, po, none⟩) (by simp only; omega) _, e2, by omega, (hgk.blk V4.out (fun h => h)).far (p := ⟨pb, po, none⟩) (by simp only; omega) _, ?_⟩
    exact HH.out.keep e2 (fun k' hk' _ h => by rcases h with h | h; exact (hA k' hk').1 (by rw [h]; exact List.mem_cons_self); exact (hA k' hk').2 h)
  have HD2 := Lib.hid hD
  clear Pg hb2 hD hgk hb2z
  go_wp2_with fail
  have HQ := Lib.hid (HWG.out _ rfl)
  clear HWG pg fg
  generalize wg.setCell ⟨pb, po, none⟩ _ = W5 at *
  have HS := Lib.hid (And.intro HQ.out.1 (And.intro HQ.out.2.1 (And.intro HQ.out.2.2.1 HQ.out.2.2.2.1)))
  have V4 := Lib.hid HQ.out.2.2.2.2.1
  have HRW := Lib.hid HQ.out.2.2.2.2.2
  have v0 := cellOf V4.out (i := 0) rfl
  have v1 := cellOf V4.out (i := 1) rfl
  have v2 := cellOf V4.out (i := 2) rfl
  have v3 := cellOf V4.out (i := 3) rfl
  have v4 := cellOf V4.out (i := 4) rfl
  have hcut3 := cut_lo A n c (i + pr.length) hlen
  rw [Int.natCast_add] at hcut3
  obtain ⟨m, hm⟩ : ∃ m, m = n - (i + pr.length) := ⟨_, rfl⟩
  obtain ⟨d, hd⟩ : ∃ d, d = c - (i + pr.length) := ⟨_, rfl⟩
  rw [← hm, ← hd] at hcut3
  
  have R4 : Hid (RowAt W5 1 (cutA A c (i + pr.length)) m (t.map byteV)) := Lib.hid (by
    have := HRW.out.cut hlen hnc
    rwa [HT.out.2, ← hm] at this)
  have hpiv2 : ∀ w1, Keep NoB W5 w1 → Calls Tryz.prog 184 #[.slice A n c, .int .i64 ((i : Int) + (pr.length : Int))] w1 fun e w' => e = .returned (byteV (pv t)) ∧ w1 = w' := fun w1 hk => by
    have := pivot_any A n c (i + pr.length) s w1 (HRW.out.keep hk (fun _ _ _ h => h)) (by unfold maxLen; omega) (by unfold maxLen; omega)
    rwa [HT.out.2, Int.natCast_add] at this
  have HP2 := Lib.hid hpiv2
  have HADD : Hid (∀ w1, Keep NoB W5 w1 → ∀ bl, Calls Tryz.prog (k.next).fAdd #[.pointer (some ⟨b2, 0, none⟩), byteV (pv t), .iface 265 (.pointer (some ⟨bl, 0, none⟩))] w1 (Added k.next b2 D ks.length (pv t) (.iface 265 (.pointer (some ⟨bl, 0, none⟩))) w1)) :=
    Lib.hid fun w1 hk bl => add_any k.next b2 (pv t) 265 _ pr ks D w1 (hk.blk HS.out.2.1 (fun h => h)) HD2.out hroom2
  clear hm hd hpiv2
  have hvb : ¬ w.heap.size = b2 := fun h => by exact absurd h (Blk.ne_ V4.out HS.out.2.1 (by cases k <;> decide))
  have m8 := me_addChild k.next b2
  have m9 := na_addChild k.next b2
  have m10 := cf_add k.next
  go_wp2_with fail
  go_region_held3 (fun w' => w'.cell? ⟨w.heap.size, 0, none⟩ = some (.int .u64 x) ∧ w'.cell? ⟨w.heap.size, 1, none⟩ = some (.int .u64 y) ∧ w'.cell? ⟨w.heap.size, 2, none⟩ = some (.int .u64 z) ∧ w'.cell? ⟨w.heap.size, 3, none⟩ = some (.bool p) ∧ w'.cell? ⟨w.heap.size, 4, none⟩ = some (.bool q)) (first | exact ⟨v0, v1, v2, v3, v4⟩ | exact ⟨h5k.cellS v0 (fun h => h), h5k.cellS v1 (fun h => h), h5k.cellS v2 (fun h => h), h5k.cellS v3 (fun h => h), h5k.cellS v4 (fun h => h)⟩ | exact ⟨h6k.cellS (h5k.cellS v0 (fun h => h)) hvb, h6k.cellS (h5k.cellS v1 (fun h => h)) hvb, h6k.cellS (h5k.cellS v2 (fun h => h)) hvb, h6k.cellS (h5k.cellS v3 (fun h => h)) hvb, h6k.cellS (h5k.cellS v4 (fun h => h)) hvb⟩)
    (first | (go_at_call 184; (first | (with_reducible refine (HP2.out _ (Keep.refl NoB W5).drew).mono ?_) | (with_reducible refine (HP2.out _ ((Keep.refl NoB W5).drew.none_trans h5k)).mono ?_)); rintro e w5' ⟨rfl, rfl⟩) | (go_at_call 233; refine (newLeaf_any (cutA A c (i + pr.length)) m d t x y z p q _ (R4.out.keep (Keep.refl NoB W5).drew (fun _ _ _ h => h))).mono ?_; rintro e w5 ⟨bl, rfl, hbz, hbl, h5k⟩) | ((with_reducible refine (HADD.out _ ((Keep.refl NoB W5).drew.none_trans h5k) bl).mono ?_); rintro e w6 ⟨rfl, h6b, h6k⟩))
  all_goals
    have hfin : Inserted pb po Tp Cp (Mof pr ks) (Fof b ks) (s.drop i) (ssv x y z p q) w (.returned (.tuple #[.pointer none, .bool false])) w6 := by
      obtain ⟨g1, g2, g3, g4, g5, g6, g7, g8, g9, g10⟩ := HALL.out
      obtain ⟨s1, s2, s3, s4⟩ := HS.out
      have e5 : Keep (fun x => x = b ∨ x = pb) w w5 := s3.drew.none_trans h5k
      have hz := s3.size
      have hbne : bl ≠ b2 := by have := s2.lt; simp only [World.size_drew] at hbz; omega
      have hpne : ¬ pb = b2 := fun h => by have := g1.lt; omega
      refine ⟨rfl, ?_⟩
      rw [HT.out.1]
      refine InsAt.add rfl g6 g7 g8 g9 g10 HX.out (e5.trans h6k (fun x hx h => by omega)) h6b (HD2.out.add (leafKid t bl) hroom2 HX.out) (h6k.blk hbl (fun h => hbne h)) ?_ (.inr s4) ?_
      · exact h6k.blk (((Keep.refl NoB _).drew.none_trans h5k).blk s1 (fun h => h)) hpne
      · simp only [World.size_drew] at hbz; omega
    have HF := Lib.hid hfin
    clear hfin h6b h6k hbl h5k
    go_wp2
    go_ret2
    exact HF.out

end Go.Proofs.YtmblkpjnafgplaaGreatDoor

namespace Go.Proofs.YtmblkpjnafgplaaGreatDoor
open Go Go.RowKit
set_option maxRecDepth 100000
set_option linter.unusedVariables false
set_option linter.unusedSimpArgs false

set_option maxHeartbeats 4000000 in
set_option maxRecDepth 100000 in
theorem ins_rec0 (tp : Value) (pb po : Nat) (A : Option Addr) (n c i : Nat) (s t : Bs) (k : NK) (b : Nat) (ks : List Kid) (x y z : Int) (p q : Bool) (Tp : TypeId) (Cp C : Array Value) (w : World) (idx : Nat) (d : Kid)
    (hp : Blk w pb Tp Cp) (hv : Cp[po]? = some (.iface k.tp (.pointer (some ⟨b, 0, none⟩)))) (h : RowAt w 1 A n (s.map byteV)) (hn : n ≤ 2305843009213693952) (hnc : n ≤ c) (hi : i ≤ n)
    (hb : Blk w b k.ty C) (hC : InnerC k ([] : Bs) ks C) (hK : Kids w ks) (h0 : ks ≠ []) (hF : (Fof b ks).Nodup) (hpb : pb ∉ Fof b ks)
    (ht : s.drop i = t) (hfresh : True) (hkey : d.key = pv t) (hgd : ks[idx]? = some d) (hrec : ∀ w1, Keep NoB w w1 → Calls Tryz.prog 187 #[tp, .pointer (some ⟨b, idx, none⟩), .slice A n c, ssa x y z p q, .int .i64 (i : Nat)] w1 (Inserted b idx k.ty C d.M d.F t (ssv x y z p q) w1)) :
    Calls Tryz.prog 187 #[tp, .pointer (some ⟨pb, po, none⟩), .slice A n c, ssa x y z p q, .int .i64 i] w (Inserted pb po Tp Cp (Mof ([] : Bs) ks) (Fof b ks) (s.drop i) (ssv x y z p q) w) := by
  have hl : s.length = n := by simpa using h.1
  have hlen : i ≤ n := hi
  have htd : s.drop i = t := ht
  have m1 := me_isLeaf k b
  have m2 := me_base k b
  have m3 := me_findChild k b
  have m4 := na_findChild k b
  have m5 := cf_find k
  have m6 := me_isFull k b
  have m7 := cf_full k
  have c0 : (boxed w x y z p q).cell? ⟨pb, po, none⟩ = some (.iface k.tp (.pointer (some ⟨b, 0, none⟩))) := cellOf (hp.alloc _) hv
  have hcut := cut_lo A n c i hi
  have cp : (boxed w x y z p q).cell? ⟨b, k.cap, none⟩ = some (str ([] : Bs)) := cellOf (hb.alloc _) hC.pre
  have hk0 : Keep NoB w (boxed w x y z p q) := (Keep.refl NoB w).alloc _
  have hltF := fun x hx => (hK.tnode hb hC h0).lt x hx
  have HALL := Lib.hid (And.intro hp (And.intro hv (And.intro h (And.intro hb (And.intro hC (And.intro hK (And.intro h0 (And.intro hF (And.intro hpb hltF)))))))))
  have HB := Lib.hid hb
  have HIC := Lib.hid hC
  have HT := Lib.hid (And.intro ht htd)
  have HX := Lib.hid hfresh
  have HL := Lib.hid hl
  have HK := Lib.hid hk0
  have HH := Lib.hid h
  have HVB : Hid (Blk (boxed w x y z p q) w.heap.size 112 #[.int .u64 x, .int .u64 y, .int .u64 z, .bool p, .bool q]) := Lib.hid (Blk.new w _ _)
  have HD := Lib.hid (And.intro hK.apart (And.intro hgd hkey))
  have HREC := Lib.hid hrec
  clear hrec hgd hkey
  clear hp hv h hb hC hK h0 hF hpb ht htd hfresh hl hk0 hltF
  go_enter Tryz.func187, Tryz.ntmps187
  go_wp2_with (first | (go_at_call 342; refine (meta_isLeaf _ _).mono ?_; rintro e w' ⟨rfl, rfl⟩) | (go_at_call 341; refine (meta_base _ _ _).mono ?_; rintro e w' ⟨rfl, rfl⟩))
  clear m1 m2 c0
  change Code.wp _ _ _ _ (boxed w x y z p q)
  generalize boxed w x y z p q = W1 at *
  have V3 := HVB
  have HK3 := HK
  have cp' := cp
  clear cp
  obtain ⟨W3, hW3⟩ : ∃ W3, W3 = W1 := ⟨_, rfl⟩
  subst hW3
  have R3 := Lib.hid (HH.out.keep HK3.out (fun _ _ _ h => h))
  have hpiv : ∀ q, Calls Tryz.prog 184 #[.slice A n c, .int .i64 (i : Int)] (W3.drewN q) fun e w' => e = .returned (byteV (pv t)) ∧ w' = W3.drewN q := fun q => by
    have := pivot_any A n c i s (W3.drewN q) R3.out (by unfold maxLen; omega) (by unfold maxLen; omega)
    rw [HT.out.2] at this
    exact this.mono (fun e w' h => ⟨h.1, h.2.symm⟩)
  have hfc := fun q => (find_any k b (pv t) [] ks C (W3.drewN q) (HK3.out.blk HB.out (fun h => h)) HIC.out).mono (fun e w' h => found_yes HD.out.1 HD.out.2.1 HD.out.2.2 h)
  have HP := Lib.hid hpiv
  have HC := Lib.hid hfc
  clear hpiv hfc
  go_wp2_with fail
  go_quiet ((first | (go_at_call 184; exact (HP.out _).mono (fun _ _ h => ⟨h.1, _, h.2⟩)) | (with_reducible exact (HC.out _).mono (fun _ _ h => ⟨h.1, _, h.2⟩))))
  have HK4 := Lib.hid (HK3.out.drewN nq)
  have V4 := Lib.hid (show Blk (W3.drewN nq) w.heap.size 112 _ from V3.out)
  clear cp'
  generalize W3.drewN nq = W4 at *
  have v0 := cellOf V4.out (i := 0) rfl
  have v1 := cellOf V4.out (i := 1) rfl
  have v2 := cellOf V4.out (i := 2) rfl
  have v3 := cellOf V4.out (i := 3) rfl
  have v4 := cellOf V4.out (i := 4) rfl
  have hrec := HREC.out W4 HK4.out
  
  have HR := Lib.hid hrec
  clear hrec
  go_wp2_with fail
  refine HR.out.mono ?_
  rintro e w5 ⟨rfl, hins⟩
  have hfin : Inserted pb po Tp Cp (Mof ([] : Bs) ks) (Fof b ks) (s.drop i) (ssv x y z p q) w (.returned (.tuple #[.pointer none, .bool false])) w5 := by
    obtain ⟨g1, g2, g3, g4, g5, g6, g7, g8, g9, g10⟩ := HALL.out
    refine ⟨rfl, ?_⟩
    rw [show s.drop i = [] ++ t from HT.out.1]
    exact InsAt.up (g6.keep HK4.out (fun _ _ _ _ _ h => h)) (HK4.out.blk g4 (fun h => h)) g5 HD.out.2.1 g8 g9 (HK4.out.blk g1 (fun h => h)) g2 HK4.out g10 (fun e he => ((g6.tnode g4 g5 g7).mem_blk e he).1) HD.out.2.2.symm hins
  have HF := Lib.hid hfin
  clear hfin hins
  go_wp2
  go_ret2
  exact HF.out

end Go.Proofs.YtmblkpjnafgplaaGreatDoor

namespace Go.Proofs.YtmblkpjnafgplaaGreatDoor
open Go Go.RowKit
set_option maxRecDepth 100000
set_option linter.unusedVariables false
set_option linter.unusedSimpArgs false

set_option maxHeartbeats 4000000 in
set_option maxRecDepth 100000 in
theorem ins_recP (tp : Value) (pb po : Nat) (A : Option Addr) (n c i : Nat) (s t pr : Bs) (k : NK) (b : Nat) (ks : List Kid) (x y z : Int) (p q : Bool) (Tp : TypeId) (Cp C : Array Value) (w : World) (idx : Nat) (d : Kid)
    (hp : Blk w pb Tp Cp) (hv : Cp[po]? = some (.iface k.tp (.pointer (some ⟨b, 0, none⟩)))) (h : RowAt w 1 A n (s.map byteV)) (hn : n ≤ 2305843009213693952) (hnc : n ≤ c) (hi : i ≤ n)
    (hb : Blk w b k.ty C) (hC : InnerC k pr ks C) (hK : Kids w ks) (h0 : ks ≠ []) (hF : (Fof b ks).Nodup) (hpb : pb ∉ Fof b ks)
    (hsl : pr.length ≤ 2305843009213693952) (hpr : 0 < pr.length) (ht : s.drop i = pr ++ t) (hfresh : True) (hkey : d.key = pv t) (hgd : ks[idx]? = some d) (hrec : ∀ w1, Keep NoB w w1 → Calls Tryz.prog 187 #[tp, .pointer (some ⟨b, idx, none⟩), .slice A n c, ssa x y z p q, .int .i64 ((i + pr.length) : Nat)] w1 (Inserted b idx k.ty C d.M d.F t (ssv x y z p q) w1)) :
    Calls Tryz.prog 187 #[tp, .pointer (some ⟨pb, po, none⟩), .slice A n c, ssa x y z p q, .int .i64 i] w (Inserted pb po Tp Cp (Mof pr ks) (Fof b ks) (s.drop i) (ssv x y z p q) w) := by
  have hl : s.length = n := by simpa using h.1
  have hlen : i + pr.length ≤ n := by have := congrArg List.length ht; simp at this; omega
  have htd : s.drop (i + pr.length) = t := by rw [← List.drop_drop, ht]; simp
  have m1 := me_isLeaf k b
  have m2 := me_base k b
  have m3 := me_findChild k b
  have m4 := na_findChild k b
  have m5 := cf_find k
  have m6 := me_isFull k b
  have m7 := cf_full k
  have c0 : (boxed w x y z p q).cell? ⟨pb, po, none⟩ = some (.iface k.tp (.pointer (some ⟨b, 0, none⟩))) := cellOf (hp.alloc _) hv
  have hcut := cut_lo A n c i hi
  have cp : (boxed w x y z p q).cell? ⟨b, k.cap, none⟩ = some (str pr) := cellOf (hb.alloc _) hC.pre
  have hk0 : Keep NoB w (boxed w x y z p q) := (Keep.refl NoB w).alloc _
  have hltF := fun x hx => (hK.tnode hb hC h0).lt x hx
  have HALL := Lib.hid (And.intro hp (And.intro hv (And.intro h (And.intro hb (And.intro hC (And.intro hK (And.intro h0 (And.intro hF (And.intro hpb hltF)))))))))
  have HB := Lib.hid hb
  have HIC := Lib.hid hC
  have HT := Lib.hid (And.intro ht htd)
  have HX := Lib.hid hfresh
  have HL := Lib.hid hl
  have HK := Lib.hid hk0
  have HH := Lib.hid h
  have HVB : Hid (Blk (boxed w x y z p q) w.heap.size 112 #[.int .u64 x, .int .u64 y, .int .u64 z, .bool p, .bool q]) := Lib.hid (Blk.new w _ _)
  have HD := Lib.hid (And.intro hK.apart (And.intro hgd hkey))
  have HREC := Lib.hid hrec
  clear hrec hgd hkey
  clear hp hv h hb hC hK h0 hF hpb ht htd hfresh hl hk0 hltF
  go_enter Tryz.func187, Tryz.ntmps187
  go_wp2_with (first | (go_at_call 342; refine (meta_isLeaf _ _).mono ?_; rintro e w' ⟨rfl, rfl⟩) | (go_at_call 341; refine (meta_base _ _ _).mono ?_; rintro e w' ⟨rfl, rfl⟩))
  clear m1 m2 c0
  change Code.wp _ _ _ _ (boxed w x y z p q)
  generalize boxed w x y z p q = W1 at *
  go_region_with (first | (go_at_call 235; refine (stb_n pr pr.length _ (by omega) rfl).mono ?_; rintro e w2 ⟨A2, c2, rfl, h2c, h2r, h2b, h2k⟩) | (go_at_call 234; refine (cpl_any A2 (cutA A c i) pr.length c2 (n - i) (c - i) pr (s.drop i) w2 h2r (((HH.out.keep HK.out (fun _ _ _ h => h)).keep ((Keep.refl NoB W1).drew.none_trans h2k) (fun _ _ _ h => h)).cut hi hnc) (by unfold maxLen; omega) (by unfold maxLen; omega)).mono ?_; rintro e w3 ⟨rfl, k3, rfl⟩))
  rw [show cpl pr (s.drop i) = pr.length from by rw [HT.out.1, cpl_app]]
  have K3 : Keep NoB W1 (w2.drewN k3) := ((Keep.refl NoB W1).drew.none_trans h2k).drewN k3
  have K03 := HK.out.none_trans K3
  have V3 := Lib.hid (K3.blk HVB.out (fun h => h))
  have HK3 := Lib.hid K03
  have cp' := cellOf (K03.blk HB.out (fun h => h)) HIC.out.pre
  clear cp K3 K03 h2r h2b h2c h2k
  generalize w2.drewN k3 = W3 at *
  have R3 := Lib.hid (HH.out.keep HK3.out (fun _ _ _ h => h))
  have hpiv : ∀ q, Calls Tryz.prog 184 #[.slice A n c, .int .i64 ((i : Int) + (pr.length : Int))] (W3.drewN q) fun e w' => e = .returned (byteV (pv t)) ∧ w' = W3.drewN q := fun q => by
    have := pivot_any A n c (i + pr.length) s (W3.drewN q) R3.out (by unfold maxLen; omega) (by unfold maxLen; omega)
    rw [HT.out.2, Int.natCast_add] at this
    exact this.mono (fun e w' h => ⟨h.1, h.2.symm⟩)
  have hfc := fun q => (find_any k b (pv t) pr ks C (W3.drewN q) (HK3.out.blk HB.out (fun h => h)) HIC.out).mono (fun e w' h => found_yes HD.out.1 HD.out.2.1 HD.out.2.2 h)
  have HP := Lib.hid hpiv
  have HC := Lib.hid hfc
  clear hpiv hfc
  go_wp2_with fail
  go_quiet ((first | (go_at_call 184; exact (HP.out _).mono (fun _ _ h => ⟨h.1, _, h.2⟩)) | (with_reducible exact (HC.out _).mono (fun _ _ h => ⟨h.1, _, h.2⟩))))
  have HK4 := Lib.hid (HK3.out.drewN nq)
  have V4 := Lib.hid (show Blk (W3.drewN nq) w.heap.size 112 _ from V3.out)
  clear cp'
  generalize W3.drewN nq = W4 at *
  have v0 := cellOf V4.out (i := 0) rfl
  have v1 := cellOf V4.out (i := 1) rfl
  have v2 := cellOf V4.out (i := 2) rfl
  have v3 := cellOf V4.out (i := 3) rfl
  have v4 := cellOf V4.out (i := 4) rfl
  have hrec := HREC.out W4 HK4.out
  rw [Int.natCast_add] at hrec
  have HR := Lib.hid hrec
  clear hrec
  go_wp2_with fail
  refine HR.out.mono ?_
  rintro e w5 ⟨rfl, hins⟩
  have hfin : Inserted pb po Tp Cp (Mof pr ks) (Fof b ks) (s.drop i) (ssv x y z p q) w (.returned (.tuple #[.pointer none, .bool false])) w5 := by
    obtain ⟨g1, g2, g3, g4, g5, g6, g7, g8, g9, g10⟩ := HALL.out
    refine ⟨rfl, ?_⟩
    rw [HT.out.1]
    exact InsAt.up (g6.keep HK4.out (fun _ _ _ _ _ h => h)) (HK4.out.blk g4 (fun h => h)) g5 HD.out.2.1 g8 g9 (HK4.out.blk g1 (fun h => h)) g2 HK4.out g10 (fun e he => ((g6.tnode g4 g5 g7).mem_blk e he).1) HD.out.2.2.symm hins
  have HF := Lib.hid hfin
  clear hfin hins
  go_wp2
  go_ret2
  exact HF.out

end Go.Proofs.YtmblkpjnafgplaaGreatDoor
