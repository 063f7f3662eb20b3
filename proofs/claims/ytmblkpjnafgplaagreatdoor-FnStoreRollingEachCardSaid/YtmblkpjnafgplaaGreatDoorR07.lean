/- insert at an inner node whose prefix parts from the subject. PRINTED by wip/gen_ic.py. insert, whatever the node: by induction on its blocks. -/
import Derived.Test.YtmblkpjnafgplaaGreatDoorR05
import Derived.Deep.RegionHeld3
import Derived.Deep.DeepCutAuto
import Derived.Test.YtmblkpjnafgplaaGreatDoorR06
namespace Go.Proofs.YtmblkpjnafgplaaGreatDoor
open Go Go.RowKit
set_option maxRecDepth 100000
set_option linter.unusedVariables false
set_option linter.unusedSimpArgs false

set_option maxHeartbeats 4000000 in
set_option maxRecDepth 100000 in
theorem ins_split (tp : Value) (pb po : Nat) (A : Option Addr) (n c i : Nat) (s pr : Bs) (k : NK) (b : Nat) (ks : List Kid) (x y z : Int) (p q : Bool) (Tp : TypeId) (Cp C : Array Value) (w : World)
    (hp : Blk w pb Tp Cp) (hv : Cp[po]? = some (.iface k.tp (.pointer (some ⟨b, 0, none⟩)))) (h : RowAt w 1 A n (s.map byteV)) (hn : n ≤ 2305843009213693952) (hnc : n ≤ c) (hi : i ≤ n)
    (hb : Blk w b k.ty C) (hC : InnerC k pr ks C) (hK : Kids w ks) (h0 : ks ≠ []) (hF : (Fof b ks).Nodup) (hpb : pb ∉ Fof b ks)
    (hsl : pr.length ≤ 2305843009213693952) (hpr : 0 < pr.length) (hcp : cpl pr (s.drop i) < pr.length) (n1 : 127 ∉ pr) (n2 : 127 ∉ s) (hA : ∀ k, blkOf A k → k ∉ Fof b ks ∧ k ≠ pb) (hfresh : True) :
    Calls Tryz.prog 187 #[tp, .pointer (some ⟨pb, po, none⟩), .slice A n c, ssa x y z p q, .int .i64 i] w (Inserted pb po Tp Cp (Mof pr ks) (Fof b ks) (s.drop i) (ssv x y z p q) w) := by
  have hl : s.length = n := by simpa using h.1
  have m1 := me_isLeaf k b
  have m2 := me_base k b
  have m3 := me_findChild k b
  have m4 := na_findChild k b
  have m5 := cf_find k
  have m6 := me_isFull k b
  have m7 := cf_full k
  have c0 : (boxed w x y z p q).cell? ⟨pb, po, none⟩ = some (.iface k.tp (.pointer (some ⟨b, 0, none⟩))) := cellOf (hp.alloc _) hv
  have hcut := cut_lo A n c i hi
  have cp : (boxed w x y z p q).cell? ⟨b, k.cap, none⟩ = some (str pr) := cellOf (hb.alloc _) hC.pre
  have hk0 : Keep NoB w (boxed w x y z p q) := (Keep.refl NoB w).alloc _
  have hltF := fun x hx => (hK.tnode hb hC h0).lt x hx
  have HALL := Lib.hid (And.intro hp (And.intro hv (And.intro h (And.intro hb (And.intro hC (And.intro hK (And.intro h0 (And.intro hF (And.intro hpb hltF)))))))))
  have HB := Lib.hid hb
  have HIC := Lib.hid hC
  have HT := Lib.hid (And.intro n1 n2)
  have HCP := Lib.hid hcp
  have HX := Lib.hid hfresh
  have HL := Lib.hid hl
  have HK := Lib.hid hk0
  have HH := Lib.hid h
  have HVB : Hid (Blk (boxed w x y z p q) w.heap.size 112 #[.int .u64 x, .int .u64 y, .int .u64 z, .bool p, .bool q]) := Lib.hid (Blk.new w _ _)
  clear hp hv h hb hC hK h0 hF hpb hfresh hl hk0 hltF n1 n2 hcp
  go_enter Tryz.func187, Tryz.ntmps187
  go_wp2_with (first | (go_at_call 342; refine (meta_isLeaf _ _).mono ?_; rintro e w' ⟨rfl, rfl⟩) | (go_at_call 341; refine (meta_base _ _ _).mono ?_; rintro e w' ⟨rfl, rfl⟩))
  clear m1 m2 c0
  change Code.wp _ _ _ _ (boxed w x y z p q)
  generalize boxed w x y z p q = W1 at *
  go_region_with (first | (go_at_call 235; refine (stb_n pr pr.length _ (by omega) rfl).mono ?_; rintro e w2 ⟨A2, c2, rfl, h2c, h2r, h2b, h2k⟩) | (go_at_call 234; refine (cpl_any A2 (cutA A c i) pr.length c2 (n - i) (c - i) pr (s.drop i) w2 h2r (((HH.out.keep HK.out (fun _ _ _ h => h)).keep ((Keep.refl NoB W1).drew.none_trans h2k) (fun _ _ _ h => h)).cut hi hnc) (by unfold maxLen; omega) (by unfold maxLen; omega)).mono ?_; rintro e w3 ⟨rfl, k3, rfl⟩))
  have hj3 : cpl pr (s.drop i) ≤ n - i := by have := (cpl_le pr (s.drop i)).2; have := HL.out; simp at *; omega
  have hjp := HCP.out
  have HFin : Hid (∀ j, j = cpl pr (s.drop i) → ∀ (w' : World) (b4 bl : Nat) (C4 : Array Value), Keep (fun x => x = b ∨ x = pb) w w' → Blk w' b4 344 C4 → InnerC .n4 ((s.drop i).take j) [⟨pv (pr.drop j), .iface k.tp (.pointer (some ⟨b, 0, none⟩)), Mof (pr.drop j) ks, Fof b ks⟩, leafKid ((s.drop i).drop j) bl] C4 →
      Blk w' bl 267 (ssv x y z p q ++ [str ((s.drop i).drop j)]).toArray → Blk w' b k.ty (C.setIfInBounds k.cap (str (pr.drop j))) → Blk w' pb Tp (Cp.setIfInBounds po (.iface 314 (.pointer (some ⟨b4, 0, none⟩)))) → w.heap.size ≤ b4 → w.heap.size ≤ bl →
      Inserted pb po Tp Cp (Mof pr ks) (Fof b ks) (s.drop i) (ssv x y z p q) w (.returned (.tuple #[.pointer none, .bool false])) w') := by
    refine Lib.hid ?_
    rintro j rfl w' b4 bl C4 q1 q2 q3 q4 q5 q6 q7 q8
    obtain ⟨g1, g2, g3, g4, g5, g6, g7, g8, g9, g10⟩ := HALL.out
    exact ⟨rfl, InsAt.preSplit rfl g6 g7 g8 g9 g10 g4 g5 HCP.out HT.out.1 (fun h => HT.out.2 (List.mem_of_mem_drop h)) q1 q2 q3 q4 q5 q6 q7 q8⟩
  replace HFin := Lib.hid (HFin.out _ rfl)
  have HJ : Hid (pv (pr.drop (cpl pr (s.drop i))) ≠ pv ((s.drop i).drop (cpl pr (s.drop i)))) := Lib.hid (cpl_pv _ _ (fun e => by
    have h1 := HCP.out
    rw [← e] at h1
    have : ∀ q : Bs, cpl q q = q.length := by intro q; induction q with | nil => rfl | cons a q ih => simp [cpl, ih]
    rw [this] at h1; omega) HT.out.1 (fun h => HT.out.2 (List.mem_of_mem_drop h)))
  clear HCP
  generalize cpl pr (s.drop i) = j at *
  have K3 : Keep NoB W1 (w2.drewN k3) := ((Keep.refl NoB W1).drew.none_trans h2k).drewN k3
  have K03 := HK.out.none_trans K3
  have V3 := Lib.hid (K3.blk HVB.out (fun h => h))
  have HK3 := Lib.hid K03
  have cp' := cellOf (K03.blk HB.out (fun h => h)) HIC.out.pre
  clear cp K3 K03 h2r h2b h2c h2k
  generalize w2.drewN k3 = W3 at *
  have hcut2 := cut_lh A n c i (i + j) (by omega) (by omega)
  rw [Int.natCast_add, show i + j - i = j from by omega] at hcut2
  have R3 := Lib.hid (HH.out.keep HK3.out (fun _ _ _ h => h))
  go_wp2_with fail
  refine (newNode4_any (cutA A c i) j (c - i) ((s.drop i).take j) W3 ((R3.out.cut hi hnc).take hj3)).mono ?_
  rintro e w4 ⟨b4, rfl, h4z, h4b, h4k⟩
  have K4 := HK3.out.none_trans h4k
  have cp4 := cellOf (K4.blk HB.out (fun h => h)) HIC.out.pre
  have HB4 := K4.blk HB.out (fun h => h)
  have fr4 := HB4.frozen k.cap
  have hcs := run_str_cut pr j (by omega)
  have V4 := Lib.hid (h4k.blk V3.out (fun h => h))
  have HK4 := Lib.hid K4
  have H4 := Lib.hid (And.intro h4z h4b)
  have HB4' := Lib.hid HB4
  clear K4 h4k h4z h4b HB4 cp'
  have mp := me_setPrefix k b
  have np := na_setPrefix k b
  go_wp2_with fail
  go_cut [] (fun wx => Blk wx b k.ty (C.setIfInBounds k.cap (str (pr.drop j))) ∧ Keep (fun x => x = b) w4 wx)
  case first =>
    go_region_with (first | (go_at_call 235; refine (stb_n (pr.drop j) (pr.length - j) _ (by simp; omega) (by simp)).mono ?_; rintro e w5 ⟨A5, c5, rfl, h5c, h5r, h5b, h5k⟩) | (go_at_call 268; refine (setPrefix_any b k.cap A5 _ c5 (pr.drop j) (str pr) w5 h5r (h5k.cellS cp4 (fun h => h)) (((h5k.blk HB4'.out (fun h => h))).frozen k.cap)).mono ?_; rintro e w6 ⟨rfl, hw6⟩))
    all_goals
      have hr : Blk (w5.setCell ⟨b, k.cap, none⟩ (str (pr.drop j))) b k.ty (C.setIfInBounds k.cap (str (pr.drop j))) ∧ Keep (fun x => x = b) w4 (w5.setCell ⟨b, k.cap, none⟩ (str (pr.drop j))) := by
        exact ⟨(h5k.blk HB4'.out (fun h => h)).set_ _ _, (((Keep.refl (fun x => x = b) w4).drew).trans h5k (fun _ _ h => h.elim)).setCell (p := ⟨b, k.cap, none⟩) (fun _ => rfl) _⟩
      have HR := Lib.hid hr
      clear hr hw6 h5k h5b h5r h5c
      go_wp2_with fail
      go_meet
      exact HR.out
  case rest =>
    obtain ⟨hb6, hk6⟩ := hcut
    have hbne : b4 ≠ b := by have := HB.out.lt; have := H4.out.1; have := HK3.out.size; omega
    have hvne : ¬ w.heap.size = b := fun h => by have := HB.out.lt; omega
    have hv4 : ¬ w.heap.size = b4 := fun h => Blk.ne_ V4.out H4.out.2 (by decide) h
    have c6 := cellOf hb6 (i := k.cap) (v := str (pr.drop j)) (Array.getElem?_setIfInBounds_self_of_lt (by have := HIC.out.size; have := k.small; omega))
    have K6 : Keep (fun x => x = b ∨ x = pb) w wc := (HK4.out.mono (fun _ _ h => h.elim)).trans hk6 (fun _ _ h => .inl h)
    have R6 : RowAt wc 1 A n (s.map byteV) := HH.out.keep K6 (fun k' hk' _ h => by rcases h with h | h; exact (hA k' hk').1 (by rw [h]; exact List.mem_cons_self); exact (hA k' hk').2 h)
    have G6 := Lib.hid (And.intro hb6 (And.intro K6 (And.intro R6 (And.intro (hk6.blk H4.out.2 hbne) (And.intro (hk6.blk V4.out hvne) (hk6.blk (HK4.out.blk HALL.out.1 (fun h => h)) (fun h => HALL.out.2.2.2.2.2.2.2.2.1 (by rw [h]; exact List.mem_cons_self))))))))
    clear hb6 hk6 K6 R6 cp4 fr4
    go_wp2_with fail
    refine (stb_n (pr.drop j) (pr.length - j) wc (by simp; omega) (by simp)).mono ?_
    rintro e w7 ⟨A7, c7, rfl, h7c, h7r, h7b, h7k⟩
    have HK7 := Lib.hid h7k
    clear h7k h7b c6
    go_wp2_with fail
    refine (pivot_nat A7 _ c7 (pr.drop j) w7 h7r (by unfold maxLen; omega)).mono ?_
    rintro e w7' ⟨rfl, rfl⟩
    clear h7r h7c
    go_wp2_with fail
    refine (add_n4 b4 0 (pv (pr.drop j)) k.tp (.pointer (some ⟨b, 0, none⟩)) _ [] _ w7 (HK7.out.blk G6.out.2.2.2.1 (fun h => h)) (InnerC.new4 _) (by omega) rfl).mono ?_
    rintro e w8 ⟨rfl, h8b, h8k⟩
    have I1 : InnerC .n4 ((s.drop i).take j) [⟨pv (pr.drop j), .iface k.tp (.pointer (some ⟨b, 0, none⟩)), Mof (pr.drop j) ks, Fof b ks⟩] _ := (InnerC.new4 _).add ⟨pv (pr.drop j), .iface k.tp (.pointer (some ⟨b, 0, none⟩)), Mof (pr.drop j) ks, Fof b ks⟩ (by decide) (by simp)
    have hpb4 : ¬ pb = b4 := fun h => by have := HALL.out.1.lt; have := H4.out.1; have := HK3.out.size; omega
    have B8 := h8k.blk (HK7.out.blk G6.out.1 (fun h => h)) (fun h => hbne h.symm)
    have P8 := h8k.blk (HK7.out.blk G6.out.2.2.2.2.2 (fun h => h)) hpb4
    have V8 := h8k.blk (HK7.out.blk G6.out.2.2.2.2.1 (fun h => h)) hv4
    have K8 : Keep (fun x => x = b ∨ x = pb) w w8 := (G6.out.2.1.none_trans HK7.out).trans h8k (fun x hx h => by have := H4.out.1; have := HK3.out.size; omega)
    have R8 : RowAt w8 1 A n (s.map byteV) := HH.out.keep K8 (fun k' hk' _ h => by rcases h with h | h; exact (hA k' hk').1 (by rw [h]; exact List.mem_cons_self); exact (hA k' hk').2 h)
    have GG := Lib.hid (And.intro B8 (And.intro P8 (And.intro V8 (And.intro K8 (And.intro R8 (And.intro I1 (show Blk w8 b4 344 _ from h8b)))))))
    clear B8 P8 K8 R8 I1 h8b h8k
    have v0 := cellOf V8 (i := 0) rfl
    have v1 := cellOf V8 (i := 1) rfl
    have v2 := cellOf V8 (i := 2) rfl
    have v3 := cellOf V8 (i := 3) rfl
    have v4 := cellOf V8 (i := 4) rfl
    clear V8
    have hcut3 := cut_lo A n c (i + j) (by omega)
    rw [Int.natCast_add] at hcut3
    obtain ⟨m, hm⟩ : ∃ m, m = n - (i + j) := ⟨_, rfl⟩
    obtain ⟨d, hd⟩ : ∃ d, d = c - (i + j) := ⟨_, rfl⟩
    rw [← hm, ← hd] at hcut3
    have R9 : Hid (RowAt w8 1 (cutA A c (i + j)) m ((s.drop (i + j)).map byteV)) := Lib.hid (by
      have := GG.out.2.2.2.2.1.cut (i := i + j) (by omega) hnc
      rwa [← hm] at this)
    have hm' : m ≤ 2305843009213693952 := by omega
    have HP2 : Hid (∀ w1, Keep NoB w8 w1 → Calls Tryz.prog 184 #[.slice (cutA A c (i + j)) m d, .int .i64 0] w1 fun e w' => e = .returned (byteV (pv (s.drop (i + j)))) ∧ w1 = w') := Lib.hid fun w1 hk =>
      pivot_nat (cutA A c (i + j)) m d (s.drop (i + j)) w1 (R9.out.keep hk (fun _ _ _ h => h)) (by unfold maxLen; omega)
    have HADD : Hid (∀ w1, Keep NoB w8 w1 → ∀ bl, Calls Tryz.prog 238 #[.pointer (some ⟨b4, 0, none⟩), byteV (pv (s.drop (i + j))), .iface 265 (.pointer (some ⟨bl, 0, none⟩))] w1 (Added .n4 b4 _ 1 (pv (s.drop (i + j))) (.iface 265 (.pointer (some ⟨bl, 0, none⟩))) w1)) :=
      Lib.hid fun w1 hk bl => add_n4 b4 1 (pv (s.drop (i + j))) 265 _ _ [_] _ w1 (hk.blk GG.out.2.2.2.2.2.2 (fun h => h)) GG.out.2.2.2.2.2.1 (by omega) rfl
    clear hm hd
    go_wp2_with fail
    go_region_held3 (fun w' => w'.cell? ⟨w.heap.size, 0, none⟩ = some (.int .u64 x) ∧ w'.cell? ⟨w.heap.size, 1, none⟩ = some (.int .u64 y) ∧ w'.cell? ⟨w.heap.size, 2, none⟩ = some (.int .u64 z) ∧ w'.cell? ⟨w.heap.size, 3, none⟩ = some (.bool p) ∧ w'.cell? ⟨w.heap.size, 4, none⟩ = some (.bool q)) (first | exact ⟨v0, v1, v2, v3, v4⟩ | exact ⟨h5k.cellS v0 (fun h => h), h5k.cellS v1 (fun h => h), h5k.cellS v2 (fun h => h), h5k.cellS v3 (fun h => h), h5k.cellS v4 (fun h => h)⟩ | exact ⟨h6k.cellS (h5k.cellS v0 (fun h => h)) hv4, h6k.cellS (h5k.cellS v1 (fun h => h)) hv4, h6k.cellS (h5k.cellS v2 (fun h => h)) hv4, h6k.cellS (h5k.cellS v3 (fun h => h)) hv4, h6k.cellS (h5k.cellS v4 (fun h => h)) hv4⟩)
      (first | (go_at_call 184; (first | (with_reducible refine (HP2.out _ (Keep.refl NoB w8).drew).mono ?_) | (with_reducible refine (HP2.out _ ((Keep.refl NoB w8).drew.none_trans h5k)).mono ?_)); rintro e w5' ⟨rfl, rfl⟩) | (go_at_call 233; refine (newLeaf_any (cutA A c (i + j)) m d (s.drop (i + j)) x y z p q _ (R9.out.keep (Keep.refl NoB w8).drew (fun _ _ _ h => h))).mono ?_; rintro e w5 ⟨bl, rfl, hbz, hbl, h5k⟩) | (go_at_call 238; (with_reducible refine (HADD.out _ ((Keep.refl NoB w8).drew.none_trans h5k) bl).mono ?_); rintro e w6 ⟨rfl, h6b, h6k⟩))
    all_goals
      have P12 := h6k.blk (h5k.blk GG.out.2.1 (fun h => h)) hpb4
      have p12 := cellOf P12 HALL.out.2.1
      have f12 := P12.frozen po
      have hfin : ∀ v, v = Value.iface 314 (.pointer (some ⟨b4, 0, none⟩)) → Inserted pb po Tp Cp (Mof pr ks) (Fof b ks) (s.drop i) (ssv x y z p q) w (.returned (.tuple #[.pointer none, .bool false])) (w6.setCell ⟨pb, po, none⟩ v) := by
        rintro _ rfl
        obtain ⟨g1, g2, g3, g4, g5, g6, g7, g8, g9, g10⟩ := HALL.out
        have e4 := H4.out.1
        have e3 := HK3.out.size
        have e8 := GG.out.2.2.2.1.size
        have ebl : b4 < w8.heap.size := (GG.out.2.2.2.2.2.2).lt
        have ew := g1.lt
        have ewb := g4.lt
        simp only [World.size_drew] at hbz
        have L12 := (h6k.blk hbl (fun h => by omega)).far (p := ⟨pb, po, none⟩) (show bl ≠ pb by omega) (.iface 314 (.pointer (some ⟨b4, 0, none⟩)))
        refine HFin.out _ b4 bl _ ?_ ((show Blk w6 b4 344 _ from h6b).far (p := ⟨pb, po, none⟩) (fun h => hpb4 h.symm) _) ?_ (by rw [List.drop_drop]; exact L12) ((h6k.blk (h5k.blk GG.out.1 (fun h => h)) (fun h => hbne h.symm)).far (p := ⟨pb, po, none⟩) (fun h => g9 (by have h' : b = pb := h; rw [← h']; exact List.mem_cons_self)) _) (P12.set_ po _) (by omega) (by omega)
        · exact (((GG.out.2.2.2.1.drew).none_trans h5k).trans h6k (fun x hx h => by omega)).setCell (p := ⟨pb, po, none⟩) (fun _ => .inr rfl) _
        · rw [List.drop_drop]
          exact GG.out.2.2.2.2.2.1.add (leafKid (s.drop (i + j)) bl) (by show 1 < 4; omega) (by
            intro d hd e
            simp at hd; subst hd
            have := HJ.out
            rw [List.drop_drop] at this
            exact this e)
      have HF := Lib.hid hfin
      clear hfin P12 h6b h6k
      go_wp2
      go_ret2
      exact HF.out _ rfl

end Go.Proofs.YtmblkpjnafgplaaGreatDoor

namespace Go.Proofs.YtmblkpjnafgplaaGreatDoor
open Go Go.RowKit
set_option maxRecDepth 100000
set_option linter.unusedVariables false
set_option linter.unusedSimpArgs false

/-- no entry holds the byte 127 -/
def No127 (M : List Ent) : Prop := ∀ e ∈ M, 127 ∉ e.1

theorem No127.kid {p : Bs} {ks : List Kid} (h : No127 (Mof p ks)) {d : Kid} (hd : d ∈ ks) : No127 d.M := by
  intro e he hm
  exact h (p ++ e.1, e.2) (by simp only [Mof, List.mem_flatMap, List.mem_map]; exact ⟨d, hd, e, he, rfl⟩) (List.mem_append.2 (.inr hm))
theorem No127.pre {p : Bs} {ks : List Kid} (h : No127 (Mof p ks)) (h0 : ks ≠ []) (hM : ∀ c ∈ ks, c.M ≠ [] ∧ ∀ e ∈ c.M, pv e.1 = c.key) : 127 ∉ p := by
  obtain ⟨c, t, rfl⟩ := List.exists_cons_of_ne_nil h0
  obtain ⟨e, t', he⟩ := List.exists_cons_of_ne_nil (hM c (by simp)).1
  intro hm
  exact h (p ++ e.1, e.2) (by simp only [Mof, List.mem_flatMap, List.mem_map]; exact ⟨c, by simp, e, by rw [he]; simp, rfl⟩) (List.mem_append.2 (.inl hm))

theorem len_kid {p : Bs} {ks : List Kid} {d : Kid} (hd : d ∈ ks) : d.M.length ≤ (Mof p ks).length := by
  have : (d.M.map fun e => (p ++ e.1, e.2)).length ≤ (Mof p ks).length := by
    unfold Mof
    rw [List.flatMap_def]
    exact (List.sublist_flatten_of_mem (List.mem_map_of_mem (f := fun c : Kid => c.M.map fun e => (p ++ e.1, e.2)) hd)).length_le
  simpa using this
theorem len_kids {p : Bs} : ∀ {ks : List Kid}, (∀ c ∈ ks, c.M ≠ []) → ks.length ≤ (Mof p ks).length
  | [], _ => by simp
  | c :: ks, h => by
    have h1 := len_kids (p := p) (ks := ks) (fun d hd => h d (List.mem_cons_of_mem _ hd))
    have h2 : 0 < c.M.length := List.length_pos_iff.2 (h c (by simp))
    have : Mof p (c :: ks) = (c.M.map fun e => (p ++ e.1, e.2)) ++ Mof p ks := by simp [Mof]
    rw [this, List.length_append, List.length_map, List.length_cons]
    omega

theorem cpl_full {p s : Bs} (h : ¬ cpl p s < p.length) : ∃ t, s = p ++ t := by
  have h1 := cpl_le p s
  have h2 := cpl_take p s
  have e : cpl p s = p.length := by omega
  rw [e, List.take_length] at h2
  exact ⟨s.drop p.length, by conv => lhs; rw [← List.take_append_drop p.length s, ← h2]⟩

theorem ins_any (tp : Value) (A : Option Addr) (n c : Nat) (s : Bs) (x y z : Int) (p q : Bool) (hn : n ≤ 2305843009213693952) (hnc : n ≤ c) (n2 : 127 ∉ s) :
    ∀ (g pb po i : Nat) (nv : Value) (M : List Ent) (F : List Nat) (Tp : TypeId) (Cp : Array Value) (w : World), F.length ≤ g → TNode w nv M F → Blk w pb Tp Cp → Cp[po]? = some nv →
      RowAt w 1 A n (s.map byteV) → i ≤ n → F.Nodup → pb ∉ F → (∀ k, blkOf A k → k ∉ F ∧ k ≠ pb) → No127 M → Short M → M.length < 40 → (∀ b, (s.drop i, b) ∉ M) →
      Calls Tryz.prog 187 #[tp, .pointer (some ⟨pb, po, none⟩), .slice A n c, ssa x y z p q, .int .i64 i] w (Inserted pb po Tp Cp M F (s.drop i) (ssv x y z p q) w) := by
  intro g
  induction g with
  | zero =>
    intro pb po i nv M F Tp Cp w hg hnode
    cases hnode with
    | leaf b suf C hb hz hs => simp at hg
    | inner k b pr ks C hb hC hk hMk hd h0 => simp at hg
  | succ g ih =>
    intro pb po i nv M F Tp Cp w hg hnode hp hv h hi hF hpb hA h127 hsh hM40 hnew
    have hl : s.length = n := by simpa using h.1
    cases hnode with
    | leaf b suf Cb hb hz hs =>
      exact ins_leaf tp pb po A n c i s suf b x y z p q Tp Cp Cb w hp hv h (fun k hk => ⟨fun e => (hA k hk).1 (by simp [e]), (hA k hk).2⟩) hn hnc hi hb hz hs
        (fun e => hnew b (by simp [e])) (fun e => hpb (by simp [e])) (h127 (suf, b) (by simp)) n2 (hsh (suf, b) (by simp))
    | inner k b pr ks C hb hC hk hMk hd h0 =>
      have hK : Kids w ks := ⟨hk, hMk, hd⟩
      have hpl : pr.length ≤ 2305843009213693952 := hsh.pre h0 hMk
      have hp127 := No127.pre h127 h0 hMk
      by_cases hc : cpl pr (s.drop i) < pr.length
      · exact ins_split tp pb po A n c i s pr k b ks x y z p q Tp Cp C w hp hv h hn hnc hi hb hC hK h0 hF hpb hpl (by omega) hc hp127 n2 hA trivial
      · obtain ⟨t, ht⟩ := cpl_full hc
        have hlen : i + pr.length ≤ n := by have := congrArg List.length ht; simp at this; omega
        have htd : s.drop (i + pr.length) = t := by rw [← List.drop_drop, ht]; simp
        have hlk : ks.length < 40 := Nat.lt_of_le_of_lt (len_kids (p := pr) (fun c hc => (hMk c hc).1)) hM40
        by_cases hex : ∀ c ∈ ks, c.key ≠ pv t
        · by_cases hfull : ks.length = k.cap
          · have hk48 : k ≠ .n48 := by rintro rfl; rw [hfull] at hlk; exact absurd hlk (by decide)
            by_cases hp0 : pr = []
            · subst hp0
              exact ins_grow0 tp pb po A n c i s t k b ks x y z p q Tp Cp C w hp hv h hn hnc hi hb hC hK h0 hF hpb ht hex hfull hk48 hA
            · exact ins_growP tp pb po A n c i s t pr k b ks x y z p q Tp Cp C w hp hv h hn hnc hi hb hC hK h0 hF hpb hpl (List.length_pos_iff.2 hp0) ht hex hfull hk48 hA
          · have hroom : ks.length < k.cap := by have := hC.few; omega
            by_cases hp0 : pr = []
            · subst hp0
              exact ins_add0 tp pb po A n c i s t k b ks x y z p q Tp Cp C w hp hv h hn hnc hi hb hC hK h0 hF hpb ht hex hroom
            · exact ins_addP tp pb po A n c i s t pr k b ks x y z p q Tp Cp C w hp hv h hn hnc hi hb hC hK h0 hF hpb hpl (List.length_pos_iff.2 hp0) ht hex hroom
        · obtain ⟨idx, d, hgd, hkey⟩ := key48 hex
          have hdm := List.mem_of_getElem? hgd
          have hnb := List.nodup_cons.1 hF
          have hsub : ∀ x ∈ d.F, x ∈ Fof b ks := fun x hx => List.mem_cons_of_mem _ (List.mem_flatMap.2 ⟨d, hdm, hx⟩)
          have hdF : d.F.Nodup := by
            obtain ⟨es, _⟩ := split_at hgd d
            have hF' : (Fof b ks).Nodup := hF
            rw [es, Fof_split] at hF'
            have h1 := (List.nodup_cons.1 hF').2
            exact (List.nodup_append.1 (List.nodup_append.1 h1).2.1).1
          have hrec : ∀ w1, Keep NoB w w1 → Calls Tryz.prog 187 #[tp, .pointer (some ⟨b, idx, none⟩), .slice A n c, ssa x y z p q, .int .i64 ((i + pr.length : Nat) : Int)] w1 (Inserted b idx k.ty C d.M d.F t (ssv x y z p q) w1) := by
            intro w1 hk1
            have := ih b idx (i + pr.length) d.val d.M d.F k.ty C w1 (by have := len_F (b := b) hdm; have : (Fof b ks).length ≤ g + 1 := hg; have h2 := len_F (b := b) hdm; simp only [Fof] at this; omega)
              ((hk d hdm).keep hk1 (fun _ _ _ h => h)) (hk1.blk hb (fun h => h)) (hC.kid idx d hgd) (h.keep hk1 (fun _ _ _ h => h)) hlen hdF
              (fun hx => hnb.1 (List.mem_flatMap.2 ⟨d, hdm, hx⟩)) (fun k' hk' => ⟨fun hx => (hA k' hk').1 (hsub k' hx), fun e => (hA k' hk').1 (by rw [e]; exact List.mem_cons_self)⟩)
              (No127.kid h127 hdm) (Short.kid hsh hdm) (Nat.lt_of_le_of_lt (len_kid (p := pr) hdm) hM40) (fun b' hb' => hnew b' (by rw [htd] at hb'; rw [ht]; exact mem_inner.2 ⟨d, hdm, hb'⟩))
            rwa [htd] at this
          by_cases hp0 : pr = []
          · subst hp0
            exact ins_rec0 tp pb po A n c i s t k b ks x y z p q Tp Cp C w idx d hp hv h hn hnc hi hb hC hK h0 hF hpb ht trivial hkey hgd (fun w1 hk1 => by have := hrec w1 hk1; simpa using this)
          · exact ins_recP tp pb po A n c i s t pr k b ks x y z p q Tp Cp C w idx d hp hv h hn hnc hi hb hC hK h0 hF hpb hpl (List.length_pos_iff.2 hp0) ht trivial hkey hgd hrec

end Go.Proofs.YtmblkpjnafgplaaGreatDoor
