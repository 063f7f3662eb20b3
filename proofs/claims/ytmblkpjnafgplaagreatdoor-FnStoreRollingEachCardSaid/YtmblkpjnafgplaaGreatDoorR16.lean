/- A store stands where a block turns that is none of its own: by the block's type. No walk here. limits, NewMemStore. recalculateForSubj: a subject's first number, found anew. -/
import Derived.Test.YtmblkpjnafgplaaGreatDoorR15
import Derived.Test.YtmblkpjnafgplaaGreatDoorR11
import Derived.Deep.RegionHeld3
import Derived.Deep.DeepCutAuto
import Derived.BigQuiet
import Derived.Test.YtmblkpjnafgplaaGreatDoorR10
import Derived.Test.YtmblkpjnafgplaaGreatDoorRWl
namespace Go.Proofs.YtmblkpjnafgplaaGreatDoor
open Go Go.RowKit
set_option linter.unusedVariables false
set_option linter.unusedSimpArgs false

/-- a block of a type that no store's block has, without bytes -/
def Foreign (w : World) (k : Nat) : Prop := ∃ t C, Blk w k t C ∧ (t = 42 ∨ t = 80 ∨ t = 30 ∨ t = 39) ∧ ∀ (j : Nat) (b : UInt8), C[j]? ≠ some (byteV b)

theorem TNode.ty_of {w : World} {v : Value} {M : List Ent} {F : List Nat} (h : TNode w v M F) : ∀ b ∈ F, ∃ t C, Blk w b t C ∧ (t = 267 ∨ t = 344 ∨ t = 387 ∨ t = 393 ∨ t = 397) := by
  induction h with
  | leaf b s C hb hz hs => intro x hx; simp at hx; subst hx; exact ⟨_, C, hb, .inl rfl⟩
  | inner k b p ks C hb hC hk hM hd h0 ih =>
    intro x hx
    simp only [List.mem_cons, List.mem_flatMap] at hx
    rcases hx with rfl | ⟨c, hc, hx⟩
    · refine ⟨_, C, hb, ?_⟩
      cases k <;> decide
    · exact ih c hc x hx

theorem StoreAt.not_mut {w : World} {ms : Nat} {h : Hd} {its : List Item} {M : List Ent} {F : List Nat} (S : StoreAt w ms h its M F) {k : Nat} (hf : ∃ t C, Blk w k t C ∧ (t = 42 ∨ t = 80 ∨ t = 30 ∨ t = 39)) : ¬ Mut ms h F k := by
  obtain ⟨t, C, hb, ht⟩ := hf
  rintro (rfl | rfl | rfl | hk | hk)
  · have := (S.hd.inj hb).2; rcases ht with rfl | rfl | rfl | rfl <;> cases this
  · obtain ⟨es, c, hm, _⟩ := S.mapA
    unfold Blk at hb
    rw [hb] at hm; cases hm
  · obtain ⟨root, hr, _⟩ := S.tree
    have := (hr.inj hb).2; rcases ht with rfl | rfl | rfl | rfl <;> cases this
  · obtain ⟨root, _, hr, _⟩ := S.tree
    rcases hr with ⟨_, _, rfl⟩ | hr
    · cases hk
    · obtain ⟨t', C', hb', ht'⟩ := hr.ty_of k hk
      have := (hb'.inj hb).2
      subst this
      rcases ht' with rfl | rfl | rfl | rfl | rfl <;> rcases ht with h | h | h | h <;> cases h
  · rcases S.dm with ⟨e0, _⟩ | ⟨nb, B, h1, h2, _⟩
    · rw [e0] at hk; cases hk
    · rw [h1] at hk
      injection hk with hk; injection hk with hk; injection hk with hk
      subst hk
      have := (h2.inj hb).2; rcases ht with rfl | rfl | rfl | rfl <;> cases this

theorem StoreAt.not_mut42 {w : World} {ms : Nat} {h : Hd} {its : List Item} {M : List Ent} {F : List Nat} (S : StoreAt w ms h its M F) {k : Nat} {C : Array Value} (hb : Blk w k 42 C) : ¬ Mut ms h F k := by
  rintro (rfl | rfl | rfl | hk | hk)
  · have := (S.hd.inj hb).2; cases this
  · obtain ⟨es, c, hm, _⟩ := S.mapA
    unfold Blk at hb
    rw [hb] at hm; cases hm
  · obtain ⟨root, hr, _⟩ := S.tree
    have := (hr.inj hb).2; cases this
  · obtain ⟨root, _, hr, _⟩ := S.tree
    rcases hr with ⟨_, _, rfl⟩ | hr
    · cases hk
    · obtain ⟨t', C', hb', ht'⟩ := hr.ty_of k hk
      have := (hb'.inj hb).2
      subst this
      rcases ht' with h | h | h | h | h <;> cases h
  · rcases S.dm with ⟨e0, _⟩ | ⟨nb, B, h1, h2, _⟩
    · rw [e0] at hk; cases hk
    · rw [h1] at hk
      injection hk with hk; injection hk with hk; injection hk with hk
      subst hk
      have := (h2.inj hb).2; cases this

theorem RowAt.far0 {w w' : World} {A : Option Addr} {xs : Bs} {G : Nat → Prop} (h : RowAt w 1 A xs.length (xs.map byteV)) (hk : Keep G w w') (hG : ∀ k, k < w.heap.size → G k → ∃ t C, Blk w k t C ∧ ∀ (j : Nat) (b : UInt8), C[j]? ≠ some (byteV b)) : RowAt w' 1 A xs.length (xs.map byteV) := by
  refine ⟨h.1, fun hn => ?_⟩
  obtain ⟨ad, e, hs, hc⟩ := h.2 hn
  refine ⟨ad, e, hs, fun j u hu => ?_⟩
  have h1 := hc j u hu
  refine hk.cellS h1 (fun hg => ?_)
  have hlt := World.block_lt_of_cell? w ⟨ad.block, ad.off + j, none⟩ h1
  obtain ⟨t, C, hb, hno⟩ := hG ad.block hlt hg
  rw [hb.cell] at h1
  rw [List.getElem?_map] at hu
  obtain ⟨b, _, rfl⟩ := Option.map_eq_some_iff.1 hu
  exact hno _ b h1

theorem RowAt.far {w w' : World} {A : Option Addr} {xs : Bs} {G : Nat → Prop} (h : RowAt w 1 A xs.length (xs.map byteV)) (hk : Keep G w w') (hG : ∀ k, k < w.heap.size → G k → Foreign w k) : RowAt w' 1 A xs.length (xs.map byteV) := by
  refine ⟨h.1, fun hn => ?_⟩
  obtain ⟨ad, e, hs, hc⟩ := h.2 hn
  refine ⟨ad, e, hs, fun j u hu => ?_⟩
  have h1 := hc j u hu
  refine hk.cellS h1 (fun hg => ?_)
  have hlt := World.block_lt_of_cell? w ⟨ad.block, ad.off + j, none⟩ h1
  obtain ⟨t, C, hb, _, hno⟩ := hG ad.block hlt hg
  rw [hb.cell] at h1
  rw [List.getElem?_map] at hu
  obtain ⟨b, _, rfl⟩ := Option.map_eq_some_iff.1 hu
  exact hno _ b h1

/-- a block that is none of a store's, nor of its messages -/
def Other (w : World) (k : Nat) : Prop := ∃ t C, Blk w k t C ∧ (t = 42 ∨ t = 80 ∨ t = 30 ∨ t = 39)

theorem Foreign.other {w : World} {k : Nat} (h : Foreign w k) : Other w k := by
  obtain ⟨t, C, hb, ht, _⟩ := h
  exact ⟨t, C, hb, ht⟩

theorem MsgAt.far {w w' : World} {N G : Nat → Prop} {i : Item} (h : MsgAt w N i) (hk : Keep G w w') (hG : ∀ k, k < w.heap.size → G k → Other w k) : MsgAt w' N i := by
  obtain ⟨A1, c1, A2, c2, A3, c3, hb, hn, r1, r2, r3, l1, l2, l3, hbk, hb5⟩ := h
  have hn5 : ∀ k, (blkOf A1 k ∨ blkOf A2 k ∨ blkOf A3 k) → ¬ G k := by
    intro k hk' hg
    obtain ⟨cs, h5⟩ := hb5 k hk'
    obtain ⟨t, C, hb', ht⟩ := hG k h5.lt hg
    have := (h5.inj hb').2
    subst this
    rcases ht with h | h | h | h <;> cases h
  refine ⟨A1, c1, A2, c2, A3, c3, hk.blk hb (fun hg => ?_), hn, r1.keep hk (fun k hk' _ => hn5 k (.inl hk')), r2.keep hk (fun k hk' _ => hn5 k (.inr (.inl hk'))), r3.keep hk (fun k hk' _ => hn5 k (.inr (.inr hk'))), l1, l2, l3, fun k hk' => ⟨Nat.lt_of_lt_of_le (hbk k hk').1 hk.size, (hbk k hk').2⟩, fun k hk' => ?_⟩
  · obtain ⟨t, C, hb', ht⟩ := hG _ hb.lt hg
    have := (hb.inj hb').2
    rcases ht with rfl | rfl | rfl | rfl <;> cases this
  · obtain ⟨cs, h5⟩ := hb5 k hk'
    exact ⟨cs, hk.blk h5 (hn5 k hk')⟩

theorem StoreAt.far {w w' : World} {ms : Nat} {h : Hd} {its : List Item} {M : List Ent} {F : List Nat} {G : Nat → Prop} (S : StoreAt w ms h its M F) (hk : Keep G w w') (hG : ∀ k, k < w.heap.size → G k → Other w k) : StoreAt w' ms h its M F := by
  have hn : ∀ k, Mut ms h F k → ¬ G k := fun k hm hg => S.not_mut (hG k (S.mut_lt k hm) hg) hm
  refine { S with hd := hk.blk S.hd (hn _ (.inl rfl)), mapA := S.mapA.keep hk (hn _ (.inr (.inl rfl))), msg := fun i hi => (S.msg i hi).far hk hG, tree := S.tree.keep hk (hn _ (.inr (.inr (.inl rfl)))) (fun k hk => hn k (.inr (.inr (.inr (.inl hk))))), sub := fun e he => (S.sub e he).keep hk (hn _ (.inr (.inr (.inr (.inl (S.tree.mem e he).1))))), dm := ?_ }
  rcases S.dm with hd | ⟨nb, B, h1, h2, h3⟩
  · exact .inl hd
  · exact .inr ⟨nb, B, h1, hk.blk h2 (hn nb (.inr (.inr (.inr (.inr h1))))), h3⟩

theorem Ses.far {w0 w w' : World} {ms : Nat} {a : Ab} {G : Nat → Prop} (s : Ses w0 w ms a) (hk : Keep G w w') (hG : ∀ k, k < w.heap.size → G k → Other w k) (hB : ∀ k, G k → w0.heap.size ≤ k) : Ses w0 w' ms a := by
  obtain ⟨h, its, M, F, S, hl, a1, a2, a3, a4, a5, a6, a7, a8, a9⟩ := s
  exact ⟨h, its, M, F, S.far hk hG, hl, a1, a2, a3, a4, a5, a6, a7, a8, a9.own hk hB⟩

/-- StoreRawMsg, at a session's store -/
theorem ses_store {P : Nat → Prop} (hraw : RawLaw P) {w0 w wx : World} {ms : Nat} {a : Ab} (s : Ses w0 w ms a) (hx : Keep NoB w wx) (hP : P a.mp) (rc : Rec) (hok : rc.Ok) (hn : a.n < 30) (Ah Ad : Option Addr) (ch cd : Nat)
    (hh : RowAt wx 1 Ah rc.hdr.length (rc.hdr.map byteV)) (hdt : RowAt wx 1 Ad rc.dat.length (rc.dat.map byteV)) (hnr : ∀ k, blkOf Ah k ∨ blkOf Ad k → w.heap.size ≤ k)
    (h05 : 5 < w0.heap.size) (g5 : ∃ t5 v5, w0.cell? ⟨5, 0, none⟩ = some (.iface t5 v5)) :
    Calls Tryz.prog 24 #[.pointer (some ⟨ms, 0, none⟩), str rc.subj, .slice Ah rc.hdr.length ch, .slice Ad rc.dat.length cd, .int .u64 0, .int .i64 rc.ts, .int .i64 0, .bool true] wx fun e w' =>
      ((a.full ∧ ∃ t v, e = .returned (.iface t v)) ∨ (¬ a.full ∧ e = .returned .nilIface)) ∧ Ses w0 w' ms (a.put rc) ∧ Keep (fun k => k < w.heap.size ∧ ∀ C, ¬ Blk w k 42 C) wx w' := by
  obtain ⟨h, its, M, F, S, hl, a1, a2, a3, a4, a5, a6, a7, a8, a9⟩ := s
  have Sx := S.keep hx (fun _ _ h => h)
  have hcnt : h.cnt = a.l.length := by rw [S.cnt, ← a7]; simp [pairs]
  obtain ⟨t5, v5, g5⟩ := g5
  have g5x : wx.cell? ⟨5, 0, none⟩ = some (.iface t5 v5) := hx.cellS (a9.cellS g5 (fun h => h)) (fun h => h)
  have hf : (h.disc = 1 ∧ h.mm ≤ h.cnt) ↔ a.full := by unfold Ab.full; rw [a3, a5, hcnt]
  refine (storeMsg_any hraw wx ms h its M F rc Ah Ad ch cd Sx (by rw [a4]; exact hP) hok (by rw [a6]; exact hn) hl a1 a2 hh hdt (fun k hk hm => by have := S.mut_lt k hm; have := hnr k hk; omega) ⟨t5, v5, g5x⟩ (fun hm => by have := a8 5 hm; omega)).mono ?_
  rintro e w' (⟨hd1, hm1, he, S', hk'⟩ | ⟨hx', he, ⟨h', its', M', F', S', kin, hn', hp', hl2, hM⟩, hk'⟩)
  · have hfull := hf.1 ⟨hd1, hm1⟩
    refine ⟨.inl ⟨hfull, he⟩, ?_, hk'.mono (fun k _ hm => ⟨S.mut_lt k hm, fun C hb => S.not_mut42 hb hm⟩)⟩
    rw [Ab.put, if_pos hfull]
    exact ⟨h, its, M, F, S', hl, a1, a2, a3, a4, a5, a6, a7, a8, (a9.none_trans hx).own hk' a8⟩
  · have hfull : ¬ a.full := fun hx => hx' (hf.2 hx)
    refine ⟨.inr ⟨hfull, he⟩, ?_, hk'.mono (fun k _ hm => ⟨S.mut_lt k hm, fun C hb => S.not_mut42 hb hm⟩)⟩
    rw [Ab.put, if_neg hfull]
    refine ⟨h', its', M', F', S', hl2, kin.l0.trans a1, kin.l4.trans a2, kin.mm.trans a3, kin.mp.trans a4, kin.disc.trans a5, by rw [hn', a6], ?_, ?_, (a9.none_trans hx).own hk' a8⟩
    · rw [hp', a4, a6, a7]
    · intro k hk
      rcases hM k hk with h1 | h1
      · exact a8 k h1
      · have := (a9.none_trans hx).size; omega

end Go.Proofs.YtmblkpjnafgplaaGreatDoor

namespace Go.Proofs.YtmblkpjnafgplaaGreatDoor
open Go Go.RowKit
set_option maxRecDepth 100000
set_option linter.unusedVariables false
set_option linter.unusedSimpArgs false

/-- a stream's limits, as its cells -/
abbrev cfgC (mm mp : Nat) (nw : Bool) : List Value := [.int .i64 (mm : Int), .int .i64 0, .int .i64 (mp : Int), .bool nw, .bool false, .int .u64 0]
/-- as the store has them -/
abbrev scC (mm mp disc : Nat) : Array Value := #[.string ⟨#[]⟩, .slice none 0 0, .int .i64 (mm : Int), .int .i64 0, .int .i64 (mp : Int), .int .i64 (disc : Int), .bool false, .int .u64 0]

set_option maxHeartbeats 1000000 in
theorem limits_any (mm mp : Nat) (nw : Bool) (w : World) : Calls Tryz.prog 15 #[.agg (cfgC mm mp nw).toArray] w fun e w' => ∃ b, e = .returned (.pointer (some ⟨b, 0, none⟩)) ∧ Blk w' b 65 (scC mm mp (if nw then 1 else 0)) ∧ w.heap.size ≤ b ∧ Keep NoB w w' := by
  cases nw
  · go_enter Tryz.func15, Tryz.ntmps15
    go_wp2
    go_ret
    refine ⟨_, rfl, ?_, by omega, ((Keep.refl NoB w).alloc _).alloc _⟩
    have := Blk.new (w.alloc (.cells (cfgC mm mp false).toArray 27)) 65 (scC mm mp 0)
    rw [show (w.alloc (.cells (cfgC mm mp false).toArray 27)).heap.size = w.heap.size + 1 by simp] at this
    exact this
  · go_enter Tryz.func15, Tryz.ntmps15
    go_wp2
    go_ret
    refine ⟨_, rfl, ?_, by omega, ((Keep.refl NoB w).alloc _).alloc _⟩
    have := Blk.new (w.alloc (.cells (cfgC mm mp true).toArray 27)) 65 (scC mm mp 1)
    rw [show (w.alloc (.cells (cfgC mm mp true).toArray 27)).heap.size = w.heap.size + 1 by simp] at this
    exact this

theorem newTree_any (w : World) : Calls Tryz.prog 114 #[] w fun e w' => e = .returned (.pointer (some ⟨w.heap.size, 0, none⟩)) ∧ w' = w.alloc (.cells #[.nilIface, .int .i64 0] 199) := by
  go_enter Tryz.func114, Tryz.ntmps114
  go_wp2
  go_ret
  exact ⟨rfl, rfl⟩

/-- a new store's head -/
abbrev newH (mm mp disc r tb : Nat) : Hd := ⟨0, 0, mm, mp, disc, 0, 0, 0, 0, 0, 0, r, tb, .pointer none, 0, 0, false, 0⟩

theorem new_ses {w0 w : World} {ms mm mp disc r tb : Nat} (hb : Blk w ms 87 (newH mm mp disc r tb).cells) (hr : MapAt w r []) (ht : Blk w tb 199 #[.nilIface, .int .i64 0]) (hk : Keep NoB w0 w) (h1 : w0.heap.size ≤ ms) (h2 : w0.heap.size ≤ r) (h3 : w0.heap.size ≤ tb)
    (hmode : mp = 0 ∨ disc = 0) (hmm : mm ≤ 1000) (hmp : mp ≤ 1000) (hd : (disc = 0 ∧ mm = 0) ∨ (disc = 1 ∧ 0 < mm)) : Ses w0 w ms ⟨mm, mp, disc, 0, []⟩ := by
  have d1 : ms ≠ r := fun e => by obtain ⟨es, c, hm, _⟩ := hr; subst e; unfold Blk at hb; rw [hb] at hm; cases hm
  have d2 : ms ≠ tb := hb.ne_ ht (by decide)
  have d3 : r ≠ tb := fun e => by obtain ⟨es, c, hm, _⟩ := hr; subst e; unfold Blk at ht; rw [ht] at hm; cases hm
  refine ⟨newH mm mp disc r tb, [], [], [], ?_, fun _ => ⟨fun s => by simp [seqs], rfl, [], List.nodup_nil, fun e => absurd rfl e, fun _ => rfl, rfl⟩, rfl, rfl, rfl, rfl, rfl, rfl, rfl, ?_, hk⟩
  · constructor
    · exact hb
    · exact hmode
    · exact ⟨hmp, hmm⟩
    · exact hd
    · exact hr
    · exact List.Pairwise.nil
    · intro i hi; cases hi
    · exact Nat.zero_le _
    · exact ⟨by simp, by simp⟩
    · rfl
    · simp
    · intro i hi; cases hi
    · intro _; rfl
    · intro i hi; cases hi
    · intro i hi; cases hi
    · exact ⟨.nilIface, ht, .inl ⟨rfl, rfl, rfl⟩, List.nodup_nil, by simp⟩
    · exact List.nodup_nil
    · intro i hi; cases hi
    · intro e he; cases he
    · exact .inl ⟨rfl, fun k hk => by have := hk.1; have := hk.2.1; simp at *; omega⟩
    · intro _; rfl
    · exact ⟨by simp, by simp⟩
    · exact ⟨d1, d2, d3⟩
    · intro k hk; cases hk
  · rintro k (rfl | rfl | rfl | hk | hk)
    · exact h1
    · exact h2
    · exact h3
    · cases hk
    · cases hk

theorem map_new (w : World) : MapAt (w.alloc (.map #[] 0)) w.heap.size [] := ⟨#[], 0, by show (w.heap.push _)[w.heap.size]? = _; simp, rfl⟩

theorem new_1 (w : World) (mm mp disc : Nat) (hmode : mp = 0 ∨ disc = 0) (hmm : mm ≤ 1000) (hmp : mp ≤ 1000) (hd : (disc = 0 ∧ mm = 0) ∨ (disc = 1 ∧ 0 < mm)) :
    Ses w ((((w.alloc (.map #[] 0)).alloc (.cells #[.nilIface, .int .i64 0] 199)).alloc (.cells (newH mm mp disc w.heap.size (w.heap.size + 1)).cells 87)).drew) (w.heap.size + 1 + 1) ⟨mm, mp, disc, 0, []⟩ ∧
      Keep NoB w ((((w.alloc (.map #[] 0)).alloc (.cells #[.nilIface, .int .i64 0] 199)).alloc (.cells (newH mm mp disc w.heap.size (w.heap.size + 1)).cells 87)).drew) := by
  have k1 := (Keep.refl NoB w).alloc (.map #[] 0)
  have k2 := (Keep.refl NoB (w.alloc (.map #[] 0))).alloc (.cells #[.nilIface, .int .i64 0] 199)
  have k3 := ((Keep.refl NoB ((w.alloc (.map #[] 0)).alloc (.cells #[.nilIface, .int .i64 0] 199))).alloc (.cells (newH mm mp disc w.heap.size (w.heap.size + 1)).cells 87)).drew
  have kk := (k1.none_trans k2).none_trans k3
  have hr := ((map_new w).keep k2 (fun h => h)).keep k3 (fun h => h)
  have ht := k3.blk (Blk.new (w.alloc (.map #[] 0)) 199 #[.nilIface, .int .i64 0]) (fun h => h)
  have hb := (Blk.new ((w.alloc (.map #[] 0)).alloc (.cells #[.nilIface, .int .i64 0] 199)) 87 (newH mm mp disc w.heap.size (w.heap.size + 1)).cells).drew
  rw [show (w.alloc (.map #[] 0)).heap.size = w.heap.size + 1 by simp] at ht
  rw [show ((w.alloc (.map #[] 0)).alloc (.cells #[.nilIface, .int .i64 0] 199)).heap.size = w.heap.size + 1 + 1 by simp] at hb
  exact ⟨new_ses hb hr ht kk (by omega) (by omega) (by omega) hmode hmm hmp hd, kk⟩

theorem new_2 (w : World) (mm mp disc : Nat) (hmode : mp = 0 ∨ disc = 0) (hmm : mm ≤ 1000) (hmp : mp ≤ 1000) (hd : (disc = 0 ∧ mm = 0) ∨ (disc = 1 ∧ 0 < mm)) :
    Ses w ((((w.alloc (.cells #[.nilIface, .int .i64 0] 199)).alloc (.map #[] 0)).alloc (.cells (newH mm mp disc (w.heap.size + 1) w.heap.size).cells 87)).drew) (w.heap.size + 1 + 1) ⟨mm, mp, disc, 0, []⟩ ∧
      Keep NoB w ((((w.alloc (.cells #[.nilIface, .int .i64 0] 199)).alloc (.map #[] 0)).alloc (.cells (newH mm mp disc (w.heap.size + 1) w.heap.size).cells 87)).drew) := by
  have k1 := (Keep.refl NoB w).alloc (.cells #[.nilIface, .int .i64 0] 199)
  have k2 := (Keep.refl NoB (w.alloc (.cells #[.nilIface, .int .i64 0] 199))).alloc (.map #[] 0)
  have k3 := ((Keep.refl NoB ((w.alloc (.cells #[.nilIface, .int .i64 0] 199)).alloc (.map #[] 0))).alloc (.cells (newH mm mp disc (w.heap.size + 1) w.heap.size).cells 87)).drew
  have kk := (k1.none_trans k2).none_trans k3
  have ht := k3.blk (k2.blk (Blk.new w 199 #[.nilIface, .int .i64 0]) (fun h => h)) (fun h => h)
  have hr := (map_new (w.alloc (.cells #[.nilIface, .int .i64 0] 199))).keep k3 (fun h => h)
  have hb := (Blk.new ((w.alloc (.cells #[.nilIface, .int .i64 0] 199)).alloc (.map #[] 0)) 87 (newH mm mp disc (w.heap.size + 1) w.heap.size).cells).drew
  rw [show (w.alloc (.cells #[.nilIface, .int .i64 0] 199)).heap.size = w.heap.size + 1 by simp] at hr
  rw [show ((w.alloc (.cells #[.nilIface, .int .i64 0] 199)).alloc (.map #[] 0)).heap.size = w.heap.size + 1 + 1 by simp] at hb
  exact ⟨new_ses hb hr ht kk (by omega) (by omega) (by omega) hmode hmm hmp hd, kk⟩

set_option maxHeartbeats 4000000 in
theorem newMem_any (w : World) (b mm mp disc : Nat) (hb : Blk w b 65 (scC mm mp disc)) (hmode : mp = 0 ∨ disc = 0) (hmm : mm ≤ 1000) (hmp : mp ≤ 1000) (hd : (disc = 0 ∧ mm = 0) ∨ (disc = 1 ∧ 0 < mm)) :
    Calls Tryz.prog 59 #[.pointer (some ⟨b, 0, none⟩)] w fun e w' => ∃ ms, e = .returned (.tuple #[.pointer (some ⟨ms, 0, none⟩), .nilIface]) ∧ Ses w w' ms ⟨mm, mp, disc, 0, []⟩ := by
  have x0 : w.cell? ⟨b, 0, none⟩ = some (.string ⟨#[]⟩) := by rw [hb.cell]; rfl
  have x1 : w.cell? ⟨b, 1, none⟩ = some (.slice none 0 0) := by rw [hb.cell]; rfl
  have x2 : w.cell? ⟨b, 2, none⟩ = some (.int .i64 (mm : Int)) := by rw [hb.cell]; rfl
  have x3 : w.cell? ⟨b, 3, none⟩ = some (.int .i64 0) := by rw [hb.cell]; rfl
  have x4 : w.cell? ⟨b, 4, none⟩ = some (.int .i64 (mp : Int)) := by rw [hb.cell]; rfl
  have x5 : w.cell? ⟨b, 5, none⟩ = some (.int .i64 (disc : Int)) := by rw [hb.cell]; rfl
  have x6 : w.cell? ⟨b, 6, none⟩ = some (.bool false) := by rw [hb.cell]; rfl
  have x7 : w.cell? ⟨b, 7, none⟩ = some (.int .u64 0) := by rw [hb.cell]; rfl
  have hlt := hb.lt
  have HB := Lib.hid (And.intro hb (And.intro hmode hd))
  clear hb hmode hd
  have SK := Lib.hid (show ∀ W1, Keep NoB w W1 → W1.cell? ⟨b, 0, none⟩ = some (.string ⟨#[]⟩) ∧ W1.cell? ⟨b, 1, none⟩ = some (.slice none 0 0) ∧ W1.cell? ⟨b, 2, none⟩ = some (.int .i64 (mm : Int)) ∧ W1.cell? ⟨b, 3, none⟩ = some (.int .i64 0) ∧ W1.cell? ⟨b, 4, none⟩ = some (.int .i64 (mp : Int)) ∧ W1.cell? ⟨b, 5, none⟩ = some (.int .i64 (disc : Int)) ∧ W1.cell? ⟨b, 6, none⟩ = some (.bool false) ∧ W1.cell? ⟨b, 7, none⟩ = some (.int .u64 0) from fun W1 hk => ⟨hk.cellS x0 (fun h => h), hk.cellS x1 (fun h => h), hk.cellS x2 (fun h => h), hk.cellS x3 (fun h => h), hk.cellS x4 (fun h => h), hk.cellS x5 (fun h => h), hk.cellS x6 (fun h => h), hk.cellS x7 (fun h => h)⟩)
  have hmk := @run_makeMap Tryz.prog
  go_enter Tryz.func59, Tryz.ntmps59
  go_wp2_with fail
  go_cut [4] (fun v wx => ∃ ms, v = .pointer (some ⟨ms, 0, none⟩) ∧ Ses w wx ms ⟨mm, mp, disc, 0, []⟩ ∧ Keep NoB w wx)
  case first =>
    go_region_held3 (fun w1 => w1.cell? ⟨b, 0, none⟩ = some (.string ⟨#[]⟩) ∧ w1.cell? ⟨b, 1, none⟩ = some (.slice none 0 0) ∧ w1.cell? ⟨b, 2, none⟩ = some (.int .i64 (mm : Int)) ∧ w1.cell? ⟨b, 3, none⟩ = some (.int .i64 0) ∧ w1.cell? ⟨b, 4, none⟩ = some (.int .i64 (mp : Int)) ∧ w1.cell? ⟨b, 5, none⟩ = some (.int .i64 (disc : Int)) ∧ w1.cell? ⟨b, 6, none⟩ = some (.bool false) ∧ w1.cell? ⟨b, 7, none⟩ = some (.int .u64 0))
      (exact SK.out _ (by repeat (first | with_reducible exact Keep.refl _ _ | with_reducible refine Keep.alloc ?_ _ | with_reducible refine Keep.drew ?_)))
      ((refine (newTree_any _).mono ?_; rintro e w5 ⟨rfl, rfl⟩))
    all_goals
      go_wp2_with fail
      go_meet
      first
        | exact ⟨_, rfl, new_1 w mm mp disc HB.out.2.1 hmm hmp HB.out.2.2⟩
        | exact ⟨_, rfl, new_2 w mm mp disc HB.out.2.1 hmm hmp HB.out.2.2⟩
  case rest =>
    obtain ⟨ms, rfl, hs, hk⟩ := hcut
    have c7 : wc.cell? ⟨b, 7, none⟩ = some (.int .u64 0) := hk.cellS x7 (fun h => h)
    have HS := Lib.hid hs
    clear hs hk x0 x1 x2 x3 x4 x5 x6 x7
    go_wp2_with fail
    go_ret2
    exact ⟨ms, rfl, HS.out⟩

theorem newStore_any (w : World) (b mm mp disc : Nat) (hb : Blk w b 65 (scC mm mp disc)) (hmode : mp = 0 ∨ disc = 0) (hmm : mm ≤ 1000) (hmp : mp ≤ 1000) (hd : (disc = 0 ∧ mm = 0) ∨ (disc = 1 ∧ 0 < mm)) :
    Calls Tryz.prog 14 #[.pointer (some ⟨b, 0, none⟩)] w fun e w' => ∃ ms, e = .returned (.tuple #[.pointer (some ⟨ms, 0, none⟩), .nilIface]) ∧ Ses w w' ms ⟨mm, mp, disc, 0, []⟩ := by
  have h23 : Calls Tryz.prog 23 #[.pointer (some ⟨b, 0, none⟩)] w fun e w' => ∃ ms, e = .returned (.tuple #[.pointer (some ⟨ms, 0, none⟩), .nilIface]) ∧ Ses w w' ms ⟨mm, mp, disc, 0, []⟩ := by
    have H := Lib.hid (newMem_any w b mm mp disc hb hmode hmm hmp hd)
    go_enter Tryz.func23, Tryz.ntmps23
    go_wp2_with fail
    refine H.out.mono ?_
    rintro e w1 ⟨ms, rfl, hs⟩
    go_wp2_with fail
    go_ret2
    exact ⟨ms, rfl, hs⟩
  have H := Lib.hid h23
  clear h23
  go_enter Tryz.func14, Tryz.ntmps14
  go_wp2_with fail
  refine H.out.mono ?_
  rintro e w1 ⟨ms, rfl, hs⟩
  go_wp2_with fail
  go_ret2
  exact ⟨ms, rfl, hs⟩

end Go.Proofs.YtmblkpjnafgplaaGreatDoor

namespace Go.Proofs.YtmblkpjnafgplaaGreatDoor
open Go Go.RowKit
set_option maxRecDepth 100000
set_option linter.unusedVariables false
set_option linter.unusedSimpArgs false

section
variable {w : World} {ops : Array Oper} {rest : List Oper} {o : Oper} {a : Act} {Q : Exit → Act → World → Prop} {r : Nat} {L : List (Nat × Nat)}
theorem wpList_look1 (hg : o.guard = none) (m k : Operand) (hop : o.op = .lookup 81 m k false) (key b : Nat) (hm : a.eval m = .map (some r)) (hk : a.eval k = .int .u64 (key : Int))
    (h : MapAt w r L) (hd : (L.map Prod.fst).Nodup) (hn : (key, b) ∈ L) (hgo : wpList Tryz.prog ops Q rest (a.put o.dst (.pointer (some ⟨b, 0, none⟩))) w) :
    wpList Tryz.prog ops Q (o :: rest) a w := by
  refine wpList_plain hg fun K hK' => ?_
  have hrun := h.look_yes hd key b hn false
  unfold Oper.wp
  simp [execOp, hop, hm, hk, hrun, Result.andThen]
  exact hK' _ _ hgo
theorem wpList_look1_no (hg : o.guard = none) (m k : Operand) (hop : o.op = .lookup 81 m k false) (key : Nat) (hm : a.eval m = .map (some r)) (hk : a.eval k = .int .u64 (key : Int))
    (h : MapAt w r L) (hn : ∀ x ∈ L, x.1 ≠ key) (hgo : wpList Tryz.prog ops Q rest (a.put o.dst (.pointer none)) w) :
    wpList Tryz.prog ops Q (o :: rest) a w := by
  refine wpList_plain hg fun K hK' => ?_
  have hrun := h.look_no key hn false
  unfold Oper.wp
  simp [execOp, hop, hm, hk, hrun, Result.andThen]
  exact hK' _ _ hgo
end

theorem seqs_srt {its : List Item} {s : Bs} (h : (its.map Item.seq).Pairwise (· < ·)) : (seqs its s).Pairwise (· < ·) := by
  unfold seqs
  exact h.sublist ((List.filter_sublist).map _)
theorem head_le {l : List Nat} {k x : Nat} (h : l.Pairwise (· < ·)) (hk : l.head? = some k) (hx : x ∈ l) : k ≤ x := by
  cases l with
  | nil => cases hx
  | cons y t =>
    simp only [List.head?_cons, Option.some.injEq] at hk
    subst hk
    rcases List.mem_cons.1 hx with rfl | hx
    · exact Nat.le_refl _
    · exact Nat.le_of_lt ((List.pairwise_cons.1 h).1 x hx)
theorem fsq_le {w : World} {ms : Nat} {h : Hd} {its : List Item} {M : List Ent} {F : List Nat} (S : StoreAt w ms h its M F) {i : Item} (hi : i ∈ its) : h.fsq ≤ i.seq := by
  have hs := S.srt
  cases its with
  | nil => cases hi
  | cons j t =>
    rw [S.first j rfl]
    exact head_le hs rfl (List.mem_map.2 ⟨i, hi, rfl⟩)

/-- a subject's state turned in its leaf: the store stands -/
theorem StoreAt.leaf {w w' : World} {ms : Nat} {h : Hd} {its : List Item} {M : List Ent} {F : List Nat} {s : Bs} {b : Nat} (S : StoreAt w ms h its M F) (hM : (s, b) ∈ M) (hk : Keep (fun k => k = b) w w') {C C' : Array Value} (hb : Blk w b 267 C) (hb' : Blk w' b 267 C') (hz : C'.size = C.size) (h5 : C'[5]? = C[5]?)
    (hsub : SubAt w' its (s, b)) : StoreAt w' ms h its M F := by
  have hbF := (S.tree.mem _ hM).1
  refine { S with hd := hk.blk S.hd (fun e => S.dis1.1 (e ▸ hbF)), mapA := S.mapA.keep hk (fun e => S.dis1.2 (e ▸ hbF)), msg := ?_, tree := S.tree.leafSet hk hb hb' hz h5 hbF, sub := ?_, dm := ?_ }
  · exact fun i hi => (S.msg i hi).keep hk (fun k _ e => .inr (.inr (.inr (.inl (e ▸ hbF))))) (fun _ _ h => h)
  · intro e he
    by_cases hes : e.1 = s
    · obtain rfl : e = (s, b) := inj_of_nodup S.uniq he hM hes
      exact hsub
    · exact (S.sub e he).keep hk (fun hx => hes (by rw [inj_of_nodup (f := Prod.snd) S.tree.nodup2 he hM hx]))
  · rcases S.dm with hd | ⟨nb, B, h1, h2, h3⟩
    · exact .inl hd
    · exact .inr ⟨nb, B, h1, hk.blk h2 (fun e => (S.dis3 nb h1).2.2.2 (e ▸ hbF)), h3⟩

set_option maxHeartbeats 4000000 in
theorem recalc_any {w : World} {ms : Nat} {h : Hd} {its : List Item} {M : List Ent} {F : List Nat} {s : Bs} {b : Nat} (S : StoreAt w ms h its M F) (hM : (s, b) ∈ M) (hL : 2 ≤ (seqs its s).length) (hfn : w.cell? ⟨b, 3, none⟩ = some (.bool true)) :
    Calls Tryz.prog 98 #[.pointer (some ⟨ms, 0, none⟩), str s, .pointer (some ⟨b, 0, none⟩)] w fun e w' => e = .returned (.tuple #[]) ∧
      ∃ k, (seqs its s).head? = some k ∧ w'.cell? ⟨b, 1, none⟩ = some (.int .u64 (k : Int)) ∧ w'.cell? ⟨b, 3, none⟩ = some (.bool false) ∧ StoreAt w' ms h its M F ∧ Keep (fun k => k = b) w w' := by
  obtain ⟨fs, ls, fn, hex, hls, hle, _, htrue, c0, c1, c2, c3, c4⟩ := S.sub _ hM
  simp only at hex hls hle htrue c0 c1 c2 c3 c4
  have hfn2 : fn = true := by rw [hfn] at c3; injection c3 with c3; injection c3 with c3; exact c3.symm
  subst hfn2
  have htr := htrue rfl
  obtain ⟨k0, hk0⟩ : ∃ k0, (seqs its s).head? = some k0 := by
    cases hq : seqs its s with
    | nil => rw [hq] at hL; simp at hL
    | cons x t => exact ⟨x, rfl⟩
  have hk0m : k0 ∈ seqs its s := List.mem_of_head? hk0
  obtain ⟨i0, hi0, hi0s, hi0k⟩ := mem_seqs.1 hk0m
  have hlsm : ls ∈ seqs its s := List.mem_of_getLast? hls
  have hk0l : k0 ≤ ls := head_le (seqs_srt S.srt) hk0 hlsm
  have hfk : fs < k0 := htr k0 hk0m
  have hqk : h.fsq ≤ k0 := by rw [← hi0k]; exact fsq_le S hi0
  have hk30 : k0 ≤ 30 := by rw [← hi0k]; have := (S.num i0 hi0).2; have := S.few; omega
  obtain ⟨hbF, C, hbw, hz⟩ := S.tree.mem _ hM
  simp only at hbw
  have hbne : ms ≠ b := fun e => S.dis1.1 (e ▸ hbF)
  have c16 : w.cell? ⟨ms, 16, none⟩ = some (.int .u64 (h.fsq : Int)) := by rw [S.hd.cell]; rfl
  have c25 : w.cell? ⟨ms, 25, none⟩ = some (.map (some h.r)) := by rw [S.hd.cell]; rfl
  have fz1 := hbw.frozen 1
  have fz3 := hbw.frozen 3
  have hLn : ¬ (((seqs its s).length : Nat) : Int) = 1 := by omega
  have HS := Lib.hid (And.intro S (And.intro hbw (And.intro hz (And.intro hk0 (And.intro hM (And.intro hbF hk0m))))))
  have hmap := S.mapA
  have hnd := S.nodup
  have HM := Lib.hid (And.intro hmap hnd)
  have HI := Lib.hid hi0
  have HFIN := Lib.hid (show (seqs its s).head? = some k0 ∧ ((w.setCell ⟨b, 1, none⟩ (.int .u64 (k0 : Int))).setCell ⟨b, 3, none⟩ (.bool false)).cell? ⟨b, 1, none⟩ = some (.int .u64 (k0 : Int)) ∧ ((w.setCell ⟨b, 1, none⟩ (.int .u64 (k0 : Int))).setCell ⟨b, 3, none⟩ (.bool false)).cell? ⟨b, 3, none⟩ = some (.bool false) ∧
      StoreAt ((w.setCell ⟨b, 1, none⟩ (.int .u64 (k0 : Int))).setCell ⟨b, 3, none⟩ (.bool false)) ms h its M F ∧ Keep (fun k => k = b) w ((w.setCell ⟨b, 1, none⟩ (.int .u64 (k0 : Int))).setCell ⟨b, 3, none⟩ (.bool false)) from by
    have hb2 := (hbw.set_ 1 (.int .u64 (k0 : Int))).set_ 3 (.bool false)
    have hk2 := (keep1 w b 1 (.int .u64 (k0 : Int))).put rfl 3 (.bool false)
    have g0 : C[0]? = some (.int .u64 (((seqs its s).length : Nat) : Int)) := by rw [← hbw.cell]; exact c0
    have g2 : C[2]? = some (.int .u64 (ls : Int)) := by rw [← hbw.cell]; exact c2
    have g4 : C[4]? = some (.bool false) := by rw [← hbw.cell]; exact c4
    have z1 : (((w.setCell ⟨b, 1, none⟩ (.int .u64 (k0 : Int))).setCell ⟨b, 3, none⟩ (.bool false))).cell? ⟨b, 1, none⟩ = some (.int .u64 (k0 : Int)) := by rw [hb2.cell]; simp [hz]
    have z3 : (((w.setCell ⟨b, 1, none⟩ (.int .u64 (k0 : Int))).setCell ⟨b, 3, none⟩ (.bool false))).cell? ⟨b, 3, none⟩ = some (.bool false) := by rw [hb2.cell]; simp [hz]
    refine ⟨hk0, z1, z3, S.leaf hM hk2 hbw hb2 (by simp) (by simp) ?_, hk2⟩
    refine ⟨k0, ls, false, hex, hls, fun k hk => head_le (seqs_srt S.srt) hk0 hk, fun _ => hk0, (fun e => by cases e), ?_, z1, ?_, z3, ?_⟩
    · show World.cell? _ ⟨b, 0, none⟩ = _
      rw [hb2.cell]; simpa using g0
    · show World.cell? _ ⟨b, 2, none⟩ = _
      rw [hb2.cell]; simpa using g2
    · show World.cell? _ ⟨b, 4, none⟩ = _
      rw [hb2.cell]; simpa using g4)
  have HNO := Lib.hid (show ∀ i ∈ its, i.seq < k0 → i.rc.subj ≠ s from fun i hi hlt e => by
    have := head_le (seqs_srt S.srt) hk0 (mem_seqs.2 ⟨i, hi, e, rfl⟩)
    omega)
  clear S hbw hls hle htrue htr hex hk0 hlsm hmap hnd hM hbF hk0m hi0 hL
  generalize hLl : (seqs its s).length = LL at *
  clear hLl
  have hf0 : (0 : Int) ≤ (fs : Int) := Int.natCast_nonneg _
  have hf1 : (fs : Int) ≤ 30 := by omega
  by_cases hcmp : fs + 1 < h.fsq
  · have hcmp' : (fs : Int) + 1 < (h.fsq : Int) := by omega
    go_enter Tryz.func98, Tryz.ntmps98
    go_wp2_with fail
    have hno : ∀ i ∈ its, i.seq < k0 → i.rc.subj ≠ s := HNO.out
    go_loop [6, 7] (fun v6 v7 => ∃ t : Nat, v6 = .int .u64 (t : Int) ∧ t ≤ k0) (fun v6 _ => k0 + 1 - (intOf v6).toNat)
    case atStart => exact ⟨h.fsq, rfl, hqk⟩
    case round =>
      obtain ⟨t, rfl, ht⟩ := hrel
      have g0 : (0 : Int) ≤ (t : Int) := Int.natCast_nonneg _
      have g1 : (t : Int) ≤ (ls : Int) := by omega
      have g2 : (t : Int) ≤ 30 := by omega
      by_cases htk : t = k0
      · subst htk
        have hlk : (t, i0.blk) ∈ its.map fun i => (i.seq, i.blk) := List.mem_map.2 ⟨i0, HI.out, by rw [hi0k]⟩
        obtain ⟨A1, d1, A2, d2, A3, d3, hmb, hmn, _⟩ := HS.out.1.msg i0 HI.out
        have x0 : w.cell? ⟨i0.blk, 0, none⟩ = some (str s) := by rw [hmb.cell, ← hi0s]; rfl
        have HL := Lib.hid hlk
        clear hlk hmb hmn hno
        go_wp2_with (first | (refine wpList_look1 rfl _ _ rfl t i0.blk rfl rfl HM.out.1 HM.out.2 HL.out ?_) | fail)
        go_end0
        exact ⟨rfl, t, HFIN.out⟩
      · have hlt : t < k0 := by omega
        by_cases hex : ∃ i ∈ its, i.seq = t
        · obtain ⟨i, hi, rfl⟩ := hex
          have hns : (i.rc.subj == s) = false := by simpa using hno i hi hlt
          have hlk : (i.seq, i.blk) ∈ its.map fun i => (i.seq, i.blk) := List.mem_map.2 ⟨i, hi, rfl⟩
          obtain ⟨A1, d1, A2, d2, A3, d3, hmb, hmn, _⟩ := HS.out.1.msg i hi
          have x0 : w.cell? ⟨i.blk, 0, none⟩ = some (str i.rc.subj) := by rw [hmb.cell]; rfl
          have HL := Lib.hid hlk
          clear hlk hmb hmn hno
          go_wp2_with (first | (refine wpList_look1 rfl _ _ rfl i.seq i.blk rfl rfl HM.out.1 HM.out.2 HL.out ?_) | fail)
          exact ⟨⟨i.seq + 1, by go_num, by omega⟩, by simp [intOf]; omega⟩
        · have hn : ∀ x ∈ its.map fun i => (i.seq, i.blk), x.1 ≠ t := fun x hx e => by
            obtain ⟨i, hi, rfl⟩ := List.mem_map.1 hx
            exact hex ⟨i, hi, e⟩
          have HN := Lib.hid hn
          clear hn hex hno
          go_wp2_with (first | (refine wpList_look1_no rfl _ _ rfl t rfl rfl HM.out.1 HN.out ?_) | fail)
          exact ⟨⟨t + 1, by go_num, by omega⟩, by simp [intOf]; omega⟩
  · have hcmp' : ¬ (fs : Int) + 1 < (h.fsq : Int) := by omega
    go_enter Tryz.func98, Tryz.ntmps98
    go_wp2_with fail
    have hno : ∀ i ∈ its, i.seq < k0 → i.rc.subj ≠ s := HNO.out
    go_loop [6, 7] (fun v6 v7 => ∃ t : Nat, v6 = .int .u64 (t : Int) ∧ t ≤ k0) (fun v6 _ => k0 + 1 - (intOf v6).toNat)
    case atStart => exact ⟨fs + 1, by go_num, by omega⟩
    case round =>
      obtain ⟨t, rfl, ht⟩ := hrel
      have g0 : (0 : Int) ≤ (t : Int) := Int.natCast_nonneg _
      have g1 : (t : Int) ≤ (ls : Int) := by omega
      have g2 : (t : Int) ≤ 30 := by omega
      by_cases htk : t = k0
      · subst htk
        have hlk : (t, i0.blk) ∈ its.map fun i => (i.seq, i.blk) := List.mem_map.2 ⟨i0, HI.out, by rw [hi0k]⟩
        obtain ⟨A1, d1, A2, d2, A3, d3, hmb, hmn, _⟩ := HS.out.1.msg i0 HI.out
        have x0 : w.cell? ⟨i0.blk, 0, none⟩ = some (str s) := by rw [hmb.cell, ← hi0s]; rfl
        have HL := Lib.hid hlk
        clear hlk hmb hmn hno
        go_wp2_with (first | (refine wpList_look1 rfl _ _ rfl t i0.blk rfl rfl HM.out.1 HM.out.2 HL.out ?_) | fail)
        go_end0
        exact ⟨rfl, t, HFIN.out⟩
      · have hlt : t < k0 := by omega
        by_cases hex : ∃ i ∈ its, i.seq = t
        · obtain ⟨i, hi, rfl⟩ := hex
          have hns : (i.rc.subj == s) = false := by simpa using hno i hi hlt
          have hlk : (i.seq, i.blk) ∈ its.map fun i => (i.seq, i.blk) := List.mem_map.2 ⟨i, hi, rfl⟩
          obtain ⟨A1, d1, A2, d2, A3, d3, hmb, hmn, _⟩ := HS.out.1.msg i hi
          have x0 : w.cell? ⟨i.blk, 0, none⟩ = some (str i.rc.subj) := by rw [hmb.cell]; rfl
          have HL := Lib.hid hlk
          clear hlk hmb hmn hno
          go_wp2_with (first | (refine wpList_look1 rfl _ _ rfl i.seq i.blk rfl rfl HM.out.1 HM.out.2 HL.out ?_) | fail)
          exact ⟨⟨i.seq + 1, by go_num, by omega⟩, by simp [intOf]; omega⟩
        · have hn : ∀ x ∈ its.map fun i => (i.seq, i.blk), x.1 ≠ t := fun x hx e => by
            obtain ⟨i, hi, rfl⟩ := List.mem_map.1 hx
            exact hex ⟨i, hi, e⟩
          have HN := Lib.hid hn
          clear hn hex hno
          go_wp2_with (first | (refine wpList_look1_no rfl _ _ rfl t rfl rfl HM.out.1 HN.out ?_) | fail)
          exact ⟨⟨t + 1, by go_num, by omega⟩, by simp [intOf]; omega⟩

end Go.Proofs.YtmblkpjnafgplaaGreatDoor
