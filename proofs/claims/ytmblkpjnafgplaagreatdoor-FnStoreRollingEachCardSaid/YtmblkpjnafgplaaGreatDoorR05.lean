/- insert at an inner node: what its walks share. insert at an empty slot, and at a leaf. -/
import Derived.Test.YtmblkpjnafgplaaGreatDoorR03
import Derived.Test.YtmblkpjnafgplaaGreatDoorR04
import Derived.Deep.RegionWith
import Derived.Deep.DeepMust
import Derived.Lib.Strings
namespace Go.Proofs.YtmblkpjnafgplaaGreatDoor
open Go Go.RowKit
set_option maxRecDepth 100000
set_option linter.unusedVariables false
set_option linter.unusedSimpArgs false

/-- the five cells of a subject's state -/
abbrev ssv (x y z : Int) (p q : Bool) : List Value := [.int .u64 x, .int .u64 y, .int .u64 z, .bool p, .bool q]
abbrev ssa (x y z : Int) (p q : Bool) : Value := .agg #[.int .u64 x, .int .u64 y, .int .u64 z, .bool p, .bool q]
abbrev boxed (w : World) (x y z : Int) (p q : Bool) : World := w.alloc (.cells #[.int .u64 x, .int .u64 y, .int .u64 z, .bool p, .bool q] 112)

theorem run_str_cut (t : Bs) (j : Nat) (hj : j ≤ t.length) (w : World) : (Instr.slice 9 (str t) (some (.int .i64 (j : Int))) none none).run Tryz.prog w = .ok (str (t.drop j)) w := by
  rw [run_slice_string_from_if (P := Tryz.prog) w 9 ⟨t.toArray⟩ .i64 (j : Int) Tryz.underlying9]
  rw [if_pos (by simp [ByteArray.size]; omega)]
  have : (ByteArray.extract ⟨t.toArray⟩ (Int.toNat (j : Int)) (ByteArray.size ⟨t.toArray⟩)) = ⟨(t.drop j).toArray⟩ := by
    apply ByteArray.ext
    apply Array.ext'
    rw [Lib.extract_data]
    simp [ByteArray.size]
    rw [List.take_of_length_le (by simp)]
  rw [this]

theorem stb_n (s : Bs) (n : Nat) (w : World) (hs : s.length < 2 ^ 63) (hn : s.length = n) : Calls Tryz.prog 235 #[str s] w fun e w' =>
    ∃ A c, e = .returned (.slice A n c) ∧ n ≤ c ∧ RowAt w' 1 A n (s.map byteV) ∧ (∀ k, blkOf A k → w.heap.size ≤ k ∧ k < w'.heap.size) ∧ Keep NoB w w' := by
  subst hn; exact stb_any s w hs

theorem idx_at (A : Option Addr) (n c k sb so : Nat) (hA : A = some ⟨sb, so, none⟩) (hk : k < n) (w : World) : (Instr.indexAt 37 (.slice A n c) (.int .i64 (k : Int))).run Tryz.prog w = .ok (.pointer (some ⟨sb, so + k, none⟩)) w := by
  subst hA
  have h1 : (k : Int) < n := by omega
  go_simp

/-- a leaf's suffix, by its block -/
theorem leaf5 {w : World} {bl : Nat} {x y z : Int} {p q : Bool} {t : Bs} (h : Blk w bl 267 #[.int .u64 x, .int .u64 y, .int .u64 z, .bool p, .bool q, str t]) : w.cell? ⟨bl, 5, none⟩ = some (str t) := cellOf h rfl

/-- a child that is not there yet -/
theorem pivot_nat (A : Option Addr) (n c : Nat) (s : Bs) (w : World) (h : RowAt w 1 A n (s.map byteV)) (hn : n ≤ maxLen) :
    Calls Tryz.prog 184 #[.slice A n c, .int .i64 0] w fun e w' => e = .returned (byteV (pv s)) ∧ w = w' := by
  have := pivot_any A n c 0 s w h hn (by unfold maxLen; omega)
  rwa [List.drop_zero] at this

theorem InnerC.new4 (s : Bs) : InnerC .n4 s [] #[.nilIface, .nilIface, .nilIface, .nilIface, str s, .int .u16 0, .int .u8 0, .int .u8 0, .int .u8 0, .int .u8 0] :=
  InnerC.made .n4 s _ rfl rfl rfl (fun h => by cases h)


theorem set_same {C : Array Value} {i : Nat} {v : Value} (h : C[i]? = some v) : C.setIfInBounds i v = C := by
  apply Array.ext_getElem?
  intro j
  by_cases e : j = i
  · subst e
    rw [h, Array.getElem?_setIfInBounds_self_of_lt (by
      rcases Nat.lt_or_ge j C.size with h' | h'
      · exact h'
      · rw [Array.getElem?_eq_none h'] at h; cases h)]
  · rw [Array.getElem?_setIfInBounds_ne (Ne.symm e)]

/-- the next kind -/
def NK.next : NK → NK | .n4 => .n10 | .n10 => .n16 | .n16 => .n48 | .n48 => .n48
theorem grow_any (k : NK) (hk : k ≠ .n48) (b : Nat) (p : Bs) (ks : List Kid) (C : Array Value) (w : World) (hb : Blk w b k.ty C) (hC : InnerC k p ks C) (hfull : ks.length = k.cap) (hv : ∀ c ∈ ks, ∃ t u, c.val = .iface t u) (hd : (ks.map Kid.key).Nodup) :
    Calls Tryz.prog k.fGrow #[.pointer (some ⟨b, 0, none⟩)] w (Grew k.next p ks w) := by
  cases k
  · exact grow_n4 b p ks C w hb hC hfull hv hd
  · exact grow_n10 b p ks C w hb hC hfull hv hd
  · exact grow_n16 b p ks C w hb hC hfull hv hd
  · exact absurd rfl hk
theorem NK.next_cap (k : NK) (hk : k ≠ .n48) : k.cap < k.next.cap := by cases k <;> first | decide | exact absurd rfl hk
theorem TNode.isIface {w : World} {v : Value} {M : List Ent} {F : List Nat} (h : TNode w v M F) : ∃ t u, v = .iface t u := by
  cases h with
  | leaf b s C hb hz hs => exact ⟨_, _, rfl⟩
  | inner k b p ks C hb hC hk hM hd h0 => exact ⟨_, _, rfl⟩

theorem cpl_app (p t : Bs) : cpl p (p ++ t) = p.length := by
  induction p with
  | nil => rfl
  | cons a p ih => simp [cpl, ih]

end Go.Proofs.YtmblkpjnafgplaaGreatDoor

namespace Go.Proofs.YtmblkpjnafgplaaGreatDoor
open Go Go.RowKit
set_option maxRecDepth 100000
set_option linter.unusedVariables false
set_option linter.unusedSimpArgs false

set_option maxHeartbeats 1000000 in
set_option maxRecDepth 100000 in
theorem ins_nil (tp : Value) (pb po : Nat) (A : Option Addr) (n c : Nat) (s : Bs) (x y z : Int) (p q : Bool) (Tp : TypeId) (Cp : Array Value) (w : World)
    (hp : Blk w pb Tp Cp) (hv : Cp[po]? = some .nilIface) (h : RowAt w 1 A n (s.map byteV)) :
    Calls Tryz.prog 187 #[tp, .pointer (some ⟨pb, po, none⟩), .slice A n c, ssa x y z p q, .int .i64 0] w (Inserted pb po Tp Cp [] [] s (ssv x y z p q) w) := by
  have c0 : (boxed w x y z p q).cell? ⟨pb, po, none⟩ = some .nilIface := cellOf (hp.alloc _) hv
  have hk0 : Keep NoB w (boxed w x y z p q) := (Keep.refl NoB w).alloc _
  have hleaf := newLeaf_any A n c s x y z p q (boxed w x y z p q) (h.keep hk0 (fun _ _ _ h => h))
  have HL := Lib.hid hleaf
  have HP := Lib.hid hp
  have HV := Lib.hid hv
  clear hleaf hk0 hp hv h
  go_enter Tryz.func187, Tryz.ntmps187
  go_wp2_with fail
  refine HL.out.mono ?_
  rintro e w1 ⟨bl, rfl, hbl, hb, hk⟩
  have hp1 := hk.blk (HP.out.alloc _) (fun h => h)
  have c1 := cellOf hp1 HV.out
  have f1 := hp1.frozen po
  have hfin : ∀ v, v = Value.iface 265 (.pointer (some ⟨bl, 0, none⟩)) → Inserted pb po Tp Cp [] [] s (ssv x y z p q) w (.returned (.tuple #[.pointer none, .bool false])) (w1.setCell ⟨pb, po, none⟩ v) := by
    rintro _ rfl
    have hne : bl ≠ pb := by have := HP.out.lt; simp at hbl; omega
    exact ⟨rfl, InsAt.nil_ rfl (hp1.set_ po _) (hb.far (p := ⟨pb, po, none⟩) hne _) (by simp at hbl; omega) ((((Keep.refl (fun k => k = pb) w).alloc _).trans hk (fun _ _ h => h.elim)).setCell (p := ⟨pb, po, none⟩) (fun _ => rfl) _)⟩
  have HF := Lib.hid hfin
  clear hfin hk hb hp1 hbl
  go_wp2
  go_ret2
  exact HF.out _ rfl

set_option maxHeartbeats 4000000 in
set_option maxRecDepth 100000 in
theorem ins_leaf (tp : Value) (pb po : Nat) (A : Option Addr) (n c i : Nat) (s suf : Bs) (b : Nat) (x y z : Int) (p q : Bool) (Tp : TypeId) (Cp Cb : Array Value) (w : World)
    (hp : Blk w pb Tp Cp) (hv : Cp[po]? = some (.iface 265 (.pointer (some ⟨b, 0, none⟩)))) (h : RowAt w 1 A n (s.map byteV)) (hA : ∀ k, blkOf A k → k ≠ b ∧ k ≠ pb) (hn : n ≤ 2305843009213693952) (hnc : n ≤ c) (hi : i ≤ n)
    (hb : Blk w b 267 Cb) (hz : Cb.size = 6) (hs : Cb[5]? = some (str suf)) (hne : suf ≠ s.drop i) (hpb : pb ≠ b) (n1 : 127 ∉ suf) (n2 : 127 ∉ s) (hsl : suf.length ≤ 2305843009213693952) :
    Calls Tryz.prog 187 #[tp, .pointer (some ⟨pb, po, none⟩), .slice A n c, ssa x y z p q, .int .i64 i] w (Inserted pb po Tp Cp [(suf, b)] [b] (s.drop i) (ssv x y z p q) w) := by
  have hl : s.length = n := by simpa using h.1
  have m1 := me_leaf_isLeaf b
  have ta := ta_leaf b
  have c0 : (boxed w x y z p q).cell? ⟨pb, po, none⟩ = some (.iface 265 (.pointer (some ⟨b, 0, none⟩))) := cellOf (hp.alloc _) hv
  have hcut := cut_lo A n c i hi
  have hk0 : Keep NoB w (boxed w x y z p q) := (Keep.refl NoB w).alloc _
  have c5 : (boxed w x y z p q).cell? ⟨b, 5, none⟩ = some (str suf) := cellOf (hb.alloc _) hs
  have hrow0 := h.keep hk0 (fun _ _ _ h => h)
  have hmatch := match_any b (cutA A c i) (n - i) (c - i) (s.drop i) suf _ (hrow0.cut hi hnc) c5
  have heq : (s.drop i == suf) = false := by simpa using Ne.symm hne
  rw [heq] at hmatch
  have hstb := fun w => stb_any suf w (by omega)
  have HT := Lib.hid hmatch
  have HP := Lib.hid hp
  have HV := Lib.hid hv
  have HH := Lib.hid h
  have HB := Lib.hid hb
  have HS := Lib.hid hs
  have HR := Lib.hid hrow0
  have HK := Lib.hid hk0
  have HL := Lib.hid hl
  have HST := Lib.hid hstb
  have HN := Lib.hid (And.intro hne (And.intro n1 n2))
  have HZ := Lib.hid hz
  have HPB := Lib.hid hpb
  have HA := Lib.hid hA
  clear hmatch hp hv h hb hs hrow0 hk0 heq hstb hl hz hne n1 n2 hpb hA
  go_enter Tryz.func187, Tryz.ntmps187
  go_wp2_with (first | (go_at_call 334; refine (leaf_isLeaf _ _).mono ?_; rintro e w' ⟨rfl, rfl⟩) | (go_at_call 183; refine HT.out.mono ?_; rintro e w' ⟨rfl, k2, rfl⟩))
  have K1 : Keep NoB w ((boxed w x y z p q).drewN k2) := HK.out.drewN k2
  have R1 : Hid (RowAt ((boxed w x y z p q).drewN k2) 1 A n (s.map byteV)) := Lib.hid HR.out
  have c5' : ((boxed w x y z p q).drewN k2).cell? ⟨b, 5, none⟩ = some (str suf) := c5
  have cv : Hid (Blk ((boxed w x y z p q).drewN k2) w.heap.size 112 #[.int .u64 x, .int .u64 y, .int .u64 z, .bool p, .bool q]) := Lib.hid (Blk.new w _ _)
  have hvb : w.heap.size < ((boxed w x y z p q).drewN k2).heap.size := by show w.heap.size < (w.alloc _).heap.size; simp
  have HK1 := Lib.hid K1
  clear K1 c5 c0 HT m1
  generalize (boxed w x y z p q).drewN k2 = W1 at *
  go_region_with (first | (go_at_call 235; refine (HST.out _).mono ?_; rintro e w2 ⟨A2, c2, rfl, h2c, h2r, h2b, h2k⟩) | (go_at_call 234; go_must (refine (cpl_any A2 (cutA A c i) suf.length c2 (n - i) (c - i) suf (s.drop i) w2 h2r ((R1.out.keep ((Keep.refl NoB W1).drew.none_trans h2k) (fun _ _ _ h => h)).cut hi hnc) (by unfold maxLen; omega) (by unfold maxLen; omega)).mono ?_); rintro e w3 ⟨rfl, k3, rfl⟩))
  have K2 : Keep NoB w (w2.drewN k3) := ((HK1.out.drew).none_trans h2k).drewN k3
  have hj := cpl_le suf (s.drop i)
  obtain ⟨hj1, hj2⟩ := hj
  have hj3 : cpl suf (s.drop i) ≤ n - i := by have := HL.out; simp at hj2; omega
  have HJ : Hid (pv (suf.drop (cpl suf (s.drop i))) ≠ pv ((s.drop i).drop (cpl suf (s.drop i)))) := Lib.hid (cpl_pv _ _ HN.out.1 HN.out.2.1 (fun h => HN.out.2.2 (List.mem_of_mem_drop h)))
  have HFin : Hid (∀ j, j = cpl suf (s.drop i) → ∀ (w' : World) (b4 bl : Nat) (C4 : Array Value), Keep (fun x => x = b ∨ x = pb) w w' → Blk w' b4 344 C4 → InnerC .n4 ((s.drop i).take j) [leafKid ((s.drop i).drop j) bl, leafKid (suf.drop j) b] C4 →
      Blk w' bl 267 (ssv x y z p q ++ [str ((s.drop i).drop j)]).toArray → Blk w' b 267 (Cb.setIfInBounds 5 (str (suf.drop j))) → Blk w' pb Tp (Cp.setIfInBounds po (.iface 314 (.pointer (some ⟨b4, 0, none⟩)))) → w.heap.size ≤ b4 → w.heap.size ≤ bl →
      Inserted pb po Tp Cp [(suf, b)] [b] (s.drop i) (ssv x y z p q) w (.returned (.tuple #[.pointer none, .bool false])) w') := by
    refine Lib.hid ?_
    rintro j rfl w' b4 bl C4 g1 g2 g3 g4 g5 g6 g7 g8
    exact ⟨rfl, InsAt.leafSplit rfl HB.out HZ.out HN.out.1 HPB.out HN.out.2.1 (fun h => HN.out.2.2 (List.mem_of_mem_drop h)) g1 g2 g3 g4 g5 g6 g7 g8⟩
  replace HFin := Lib.hid (HFin.out _ rfl)
  clear hj2 h2r h2b
  generalize cpl suf (s.drop i) = j at *
  have hcut2 := cut_lh A n c i (i + j) (by omega) (by omega)
  rw [Int.natCast_add, show i + j - i = j from by omega] at hcut2
  have R2 := Lib.hid (HH.out.keep K2 (fun _ _ _ h => h))
  have HK2 := Lib.hid K2
  have HVB := Lib.hid (show Blk (w2.drewN k3) w.heap.size 112 _ from ((Keep.refl NoB W1).drew.none_trans h2k).blk cv.out (fun h => h))
  clear h2k K2
  generalize w2.drewN k3 = W3 at *
  go_wp2_with fail
  refine (newNode4_any (cutA A c i) j (c - i) ((s.drop i).take j) W3 ((R2.out.cut hi hnc).take hj3)).mono ?_
  rintro e w4 ⟨b4, rfl, h4lt, h4b, h4k⟩
  have K4 := HK2.out.none_trans h4k
  have c5 : w4.cell? ⟨b, 5, none⟩ = some (str suf) := cellOf (K4.blk HB.out (fun h => h)) HS.out
  have hcs := run_str_cut suf j hj1
  have HK4 := Lib.hid K4
  have h4k' := Lib.hid h4k
  have H4 := Lib.hid (And.intro h4lt h4b)
  clear K4 h4k h4lt h4b c5'
  go_wp2_with fail
  refine (stb_n (suf.drop j) (suf.length - j) w4 (by simp; omega) (by simp)).mono ?_
  rintro e w5 ⟨A5, c5, rfl, h5c, h5r, h5b, h5k⟩
  have K5 := HK4.out.none_trans h5k
  have cb5 := K5.blk HB.out (fun h => h)
  go_wp2_with fail
  refine (setSuffix_any b A5 _ c5 (suf.drop j) (str suf) w5 h5r (cellOf cb5 HS.out) (cb5.frozen 5)).mono ?_
  rintro e w6 ⟨rfl, hw6⟩
  have B6 : Blk w6 b 267 (Cb.setIfInBounds 5 (str (suf.drop j))) := by rw [hw6]; exact cb5.set_ 5 _
  have K6 : Keep (fun x => x = b ∨ x = pb) w w6 := by rw [hw6]; exact (K5.mono (fun _ _ h => h.elim)).setCell (p := ⟨b, 5, none⟩) (fun _ => .inl rfl) _
  have P6 : Blk w6 pb Tp Cp := by rw [hw6]; exact (K5.blk HP.out (fun h => h)).far (p := ⟨b, 5, none⟩) HPB.out _
  have R6 : RowAt w6 1 A n (s.map byteV) := HH.out.keep K6 (fun k hk _ h => by rcases h with h | h; exact (HA.out k hk).1 h; exact (HA.out k hk).2 h)
  have hvne : w.heap.size ≠ b := by have := HB.out.lt; omega
  have hbne : b4 ≠ b := by have := HB.out.lt; have := H4.out.1; have := HK2.out.size; omega
  have Q6 := (h5k.blk H4.out.2 (fun h => h)).far (p := ⟨b, 5, none⟩) hbne (str (suf.drop j))
  rw [← hw6] at Q6
  have X6 := ((h5k.blk (h4k'.out.blk HVB.out (fun h => h)) (fun h => h)).far (p := ⟨b, 5, none⟩) hvne (str (suf.drop j)))
  rw [← hw6] at X6
  have G6 := Lib.hid (And.intro B6 (And.intro K6 (And.intro P6 (And.intro R6 (And.intro Q6 X6)))))
  have c6 : w6.cell? ⟨b, 5, none⟩ = some (str (suf.drop j)) := cellOf B6 (Array.getElem?_setIfInBounds_self_of_lt (by have := HZ.out; omega))
  clear hw6 X6 Q6 R6 P6 K6 B6 cb5 K5 h5r h5b h5k h5c hbne hvne
  go_wp2_with fail
  refine (stb_n (suf.drop j) (suf.length - j) w6 (by simp; omega) (by simp)).mono ?_
  rintro e w7 ⟨A7, c7, rfl, h7c, h7r, h7b, h7k⟩
  have HK7 := Lib.hid h7k
  clear h7k h7b c6
  go_wp2_with fail
  refine (pivot_any A7 _ c7 0 (suf.drop j) w7 h7r (by unfold maxLen; omega) (by unfold maxLen; omega)).mono ?_
  rintro e w7' ⟨rfl, rfl⟩
  clear h7r h7c
  rw [List.drop_zero]
  have R7 := G6.out.2.2.2.1.keep HK7.out (fun _ _ _ h => h)
  have V7 := HK7.out.blk G6.out.2.2.2.2.2 (fun h => h)
  have v0 := cellOf V7 (i := 0) rfl
  have v1 := cellOf V7 (i := 1) rfl
  have v2 := cellOf V7 (i := 2) rfl
  have v3 := cellOf V7 (i := 3) rfl
  have v4 := cellOf V7 (i := 4) rfl
  have hcut3 := cut_lo A n c (i + j) (by omega)
  rw [Int.natCast_add] at hcut3
  obtain ⟨m, hm⟩ : ∃ m, m = n - (i + j) := ⟨_, rfl⟩
  obtain ⟨d, hd⟩ : ∃ d, d = c - (i + j) := ⟨_, rfl⟩
  rw [← hm, ← hd] at hcut3
  have hm' : m ≤ 2305843009213693952 := by omega
  have HM := Lib.hid hm
  have HD := Lib.hid hd
  clear hm hd
  have HR7 := Lib.hid R7
  clear V7 R7
  have hcases : (j ≤ 0) ∨ (0 < j ∧ n ≤ i + j) ∨
      (0 < j ∧ ∃ (sb so : Nat) (y' : UInt8), i + j < n ∧ (∀ w, (Instr.indexAt 37 (.slice A n c) (.int .i64 ((i : Int) + (j : Int)))).run Tryz.prog w = .ok (.pointer (some ⟨sb, so + (i + j), none⟩)) w) ∧ w7.cell? ⟨sb, so + (i + j), none⟩ = some (byteV y') ∧ (((pv (suf.drop j)).toNat : Int) == (y'.toNat : Int)) = false) := by
    by_cases h0 : 0 < j
    · by_cases h1 : i + j < n
      · obtain ⟨sb, so, hAe, hl', hcl⟩ := row_cell HR7.out h1
        refine .inr (.inr ⟨h0, sb, so, s[i + j], h1, fun w => by rw [← Int.natCast_add]; exact idx_at A n c (i + j) sb so hAe h1 w, hcl, ?_⟩)
        have := HJ.out
        rw [List.drop_drop, show pv (s.drop (i + j)) = s[i + j] from by rw [pv_drop, dif_pos hl']] at this
        exact byte_ne this
      · exact .inr (.inl ⟨h0, by omega⟩)
    · exact .inl (by omega)
  generalize hpv : pv (suf.drop j) = px at *
  have HPX := Lib.hid hpv
  clear hpv
  rcases hcases with hc1 | ⟨hc1, hc2⟩ | ⟨hc1, sb, so, y', hc2, hidx, hc3, hc4⟩
  all_goals
    go_wp2_with fail
    go_region_with (go_at_call 233; refine (newLeaf_any (cutA A c (i + j)) m d (s.drop (i + j)) x y z p q w7.drew (by rw [HM.out]; exact HR7.out.cut (by omega) hnc)).mono ?_; rintro e w8 ⟨bl, rfl, hblz, hbl, h8k⟩)
    have K8 : Keep NoB w7 w8 := (Keep.refl NoB w7).drew.none_trans h8k
    have cl8 := leaf5 hbl
    have HK8 := Lib.hid K8
    have HBL := Lib.hid (And.intro hblz hbl)
    clear K8 h8k hblz hbl v0 v1 v2 v3 v4
    go_wp2_with fail
    refine (stb_n (s.drop (i + j)) m w8 (by have := HL.out; simp; omega) (by have := HL.out; have := HM.out; simp; omega)).mono ?_
    rintro e w9 ⟨A9, c9, rfl, h9c, h9r, h9b, h9k⟩
    have HK9 := Lib.hid h9k
    clear h9k h9b
    go_wp2_with fail
    refine (pivot_nat A9 _ c9 (s.drop (i + j)) w9 h9r (by unfold maxLen; omega)).mono ?_
    rintro e w9' ⟨rfl, rfl⟩
    clear h9r h9c
    have B4 := HK9.out.blk (HK8.out.blk (HK7.out.blk G6.out.2.2.2.2.1 (fun h => h)) (fun h => h)) (fun h => h)
    go_wp2_with fail
    refine (add_n4 b4 0 (pv (s.drop (i + j))) 265 (.pointer (some ⟨bl, 0, none⟩)) _ [] _ w9 B4 (InnerC.new4 _) (by omega) rfl).mono ?_
    rintro e w10 ⟨rfl, h10b, h10k⟩
    have I1 : InnerC .n4 ((s.drop i).take j) [leafKid (s.drop (i + j)) bl] _ := (InnerC.new4 _).add (leafKid (s.drop (i + j)) bl) (by decide) (by simp)
    have hz6 := HK7.out.size
    have hz8 := HK8.out.size
    have hz9 := HK9.out.size
    have hz5 := G6.out.2.1.size
    have hb4lt := (G6.out.2.2.2.2.1).lt
    have hblt := HB.out.lt
    have hplt := HP.out.lt
    have hb4n : b4 ≠ b ∧ b4 ≠ pb ∧ w.heap.size ≤ b4 ∧ w.heap.size ≤ bl ∧ bl ≠ b ∧ bl ≠ pb ∧ w7.heap.size ≤ bl := by
      have := H4.out.1; have := HK2.out.size; have := HBL.out.1
      simp only [World.size_drew] at *
      omega
    have HN4 := Lib.hid hb4n
    have B10 := h10k.blk (HK9.out.blk (HK8.out.blk (HK7.out.blk G6.out.1 (fun h => h)) (fun h => h)) (fun h => h)) (fun h => hb4n.1 h.symm)
    have P10 := h10k.blk (HK9.out.blk (HK8.out.blk (HK7.out.blk G6.out.2.2.1 (fun h => h)) (fun h => h)) (fun h => h)) (fun h => hb4n.2.1 h.symm)
    have L10 := h10k.blk (HK9.out.blk HBL.out.2 (fun h => h)) (fun h => by omega)
    have K10 : Keep (fun x => x = b ∨ x = pb) w w10 := (((G6.out.2.1.none_trans HK7.out).none_trans HK8.out).none_trans HK9.out).trans h10k (fun x hx h => by omega)
    have b10 : w10.cell? ⟨b, 5, none⟩ = some (str (suf.drop j)) := cellOf B10 (Array.getElem?_setIfInBounds_self_of_lt (by have := HZ.out; omega))
    have GG := Lib.hid (And.intro B10 (And.intro P10 (And.intro L10 (And.intro K10 (And.intro I1 h10b)))))
    clear B10 P10 L10 K10 I1 h10b h10k B4 cl8 hz5 hz6 hz8 hz9 hb4lt hblt hplt hb4n
    go_wp2_with fail
    refine (stb_n (suf.drop j) (suf.length - j) w10 (by simp; omega) (by simp)).mono ?_
    rintro e w11 ⟨A11, c11, rfl, h11c, h11r, h11b, h11k⟩
    have HK11 := Lib.hid h11k
    clear h11k h11b b10
    go_wp2_with fail
    refine (pivot_nat A11 _ c11 (suf.drop j) w11 h11r (by unfold maxLen; omega)).mono ?_
    rintro e w11' ⟨rfl, rfl⟩
    clear h11r h11c
    go_wp2_with fail
    refine (add_n4 b4 1 (pv (suf.drop j)) 265 (.pointer (some ⟨b, 0, none⟩)) _ [leafKid (s.drop (i + j)) bl] _ w11 (HK11.out.blk GG.out.2.2.2.2.2 (fun h => h)) GG.out.2.2.2.2.1 (by omega) rfl).mono ?_
    rintro e w12 ⟨rfl, h12b, h12k⟩
    have P12 := h12k.blk (HK11.out.blk GG.out.2.1 (fun h => h)) (fun h => HN4.out.2.1 h.symm)
    have p12 := cellOf P12 HV.out
    have f12 := P12.frozen po
    have hfin : ∀ v, v = Value.iface 314 (.pointer (some ⟨b4, 0, none⟩)) → Inserted pb po Tp Cp [(suf, b)] [b] (s.drop i) (ssv x y z p q) w (.returned (.tuple #[.pointer none, .bool false])) (w12.setCell ⟨pb, po, none⟩ v) := by
      rintro _ rfl
      obtain ⟨n1, n2, n3, n4, n5, n6, n7⟩ := HN4.out
      have L12 := (h12k.blk (HK11.out.blk GG.out.2.2.1 (fun h => h)) (fun h => by
        have := (G6.out.2.2.2.2.1).lt
        have := HK7.out.size
        omega)).far (p := ⟨pb, po, none⟩) n6 (.iface 314 (.pointer (some ⟨b4, 0, none⟩)))
      refine HFin.out _ b4 bl _ ?_ ((show Blk w12 b4 344 _ from h12b).far (p := ⟨pb, po, none⟩) n2 _) ?_ (by rw [List.drop_drop]; exact L12) ((h12k.blk (HK11.out.blk GG.out.1 (fun h => h)) (fun h => n1 h.symm)).far (p := ⟨pb, po, none⟩) (Ne.symm HPB.out) _) (P12.set_ po _) n3 n4
      · exact ((GG.out.2.2.2.1.none_trans HK11.out).trans h12k (fun x hx h => by omega)).setCell (p := ⟨pb, po, none⟩) (fun _ => .inr rfl) _
      · rw [List.drop_drop]
        exact GG.out.2.2.2.2.1.add (leafKid (suf.drop j) b) (by show 1 < 4; omega) (by
          intro d hd e
          simp at hd; subst hd
          have := HJ.out
          rw [List.drop_drop] at this
          exact this (HPX.out.symm.trans e.symm))
    have HF := Lib.hid hfin
    clear hfin P12 h12b h12k
    go_wp2
    go_ret2
    exact HF.out _ rfl
end Go.Proofs.YtmblkpjnafgplaaGreatDoor
