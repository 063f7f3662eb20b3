/- The store's small functions. A message's making: plain laws. No walk here. A message taken out of the store: plain laws of what is left. No walk here. -/
import Derived.Test.YtmblkpjnafgplaaGreatDoorR08
import Derived.Test.YtmblkpjnafgplaaGreatDoorR09
import Derived.BigQuiet
import Derived.Test.YtmblkpjnafgplaaGreatDoorR03
namespace Go.Proofs.YtmblkpjnafgplaaGreatDoor
open Go Go.RowKit
set_option maxRecDepth 100000
set_option linter.unusedVariables false
set_option linter.unusedSimpArgs false

theorem keep1 (w : World) (g i : Nat) (u : Value) : Keep (fun k => k = g) w (w.setCell ⟨g, i, none⟩ u) := (Keep.refl (fun k => k = g) w).setCell (p := ⟨g, i, none⟩) (fun _ => rfl) u
theorem Keep.put {F : Nat → Prop} {a b : World} (h : Keep F a b) {g : Nat} (hF : F g) (i : Nat) (u : Value) : Keep F a (b.setCell ⟨g, i, none⟩ u) := h.setCell (p := ⟨g, i, none⟩) (fun _ => hF) u
theorem wr1 : wrap32 (0 + 1) = 1 := by unfold wrap32; omega
theorem wr2 : wrap32 (1 + -1) = 0 := by unfold wrap32; omega

section
variable {w : World} {ms : Nat} {h : Hd}

theorem hd_wlock (hb : Blk w ms 87 h.cells) (h0 : h.l0 = 0) (h4 : h.l4 = 0) : Calls Tryz.prog 60 #[.pointer (some ⟨ms, 0, none⟩)] w fun e w' =>
    e = .returned (.tuple #[]) ∧ Blk w' ms 87 ({ h with l0 := 1, l4 := -1073741824 } : Hd).cells ∧ Keep (fun k => k = ms) w w' := by
  have c0 : w.cell? ⟨ms, 0, none⟩ = some (.int .i32 0) := by rw [hb.cell]; simp [h0]
  have c4 : w.cell? ⟨ms, 0 + 4, none⟩ = some (.int .i32 0) := by rw [hb.cell]; simp [h4]
  refine (Go.RwLone.wlock_free rwWLib ms 0 (.int .u32 0) (.int .u32 0) w c0 (by rw [hb.cell]; rfl) (by rw [hb.cell]; rfl) c4 (hb.frozen 0) (hb.frozen 4)).mono ?_
  rintro e w' ⟨rfl, rfl⟩
  exact ⟨rfl, (hb.set_ 0 _).set_ 4 _, (keep1 w ms 0 _).put rfl _ _⟩

theorem hd_wunlock (hb : Blk w ms 87 h.cells) (h0 : h.l0 = 1) (h4 : h.l4 = -1073741824) : Calls Tryz.prog 62 #[.pointer (some ⟨ms, 0, none⟩)] w fun e w' =>
    e = .returned (.tuple #[]) ∧ Blk w' ms 87 ({ h with l0 := 0, l4 := 0 } : Hd).cells ∧ Keep (fun k => k = ms) w w' := by
  have c0 : w.cell? ⟨ms, 0, none⟩ = some (.int .i32 1) := by rw [hb.cell]; simp [h0]
  have c4 : w.cell? ⟨ms, 0 + 4, none⟩ = some (.int .i32 (-1073741824)) := by rw [hb.cell]; simp [h4]
  refine (Go.RwLone.wunlock_held rwWLib ms 0 (.int .u32 0) (.int .u32 0) w c0 (by rw [hb.cell]; rfl) (by rw [hb.cell]; rfl) c4 (hb.frozen 0) (hb.frozen 4)).mono ?_
  rintro e w' ⟨rfl, rfl⟩
  exact ⟨rfl, (hb.set_ 4 _).set_ 0 _, (keep1 w ms _ _).put rfl _ _⟩

theorem hd_rlock (hb : Blk w ms 87 h.cells) (h4 : h.l4 = 0) : Calls Tryz.prog 63 #[.pointer (some ⟨ms, 0, none⟩)] w fun e w' =>
    e = .returned (.tuple #[]) ∧ Blk w' ms 87 ({ h with l4 := 1 } : Hd).cells ∧ Keep (fun k => k = ms) w w' := by
  have c4 : w.cell? ⟨ms, 0 + 4, none⟩ = some (.int .i32 0) := by rw [hb.cell]; simp [h4]
  refine (Go.RwLone.rlock_open rwRLib ms 0 0 (.int .i32 h.l0) (.int .u32 0) w (by rw [hb.cell]; rfl) (by rw [hb.cell]; rfl) c4 (hb.frozen 4) (by first | (rw [wr1]; decide) | (rw [wr2]; decide))).mono ?_
  rintro e w' ⟨rfl, rfl⟩
  rw [wr1]
  exact ⟨rfl, hb.set_ 4 _, keep1 w ms _ _⟩

theorem hd_runlock (hb : Blk w ms 87 h.cells) (h4 : h.l4 = 1) : Calls Tryz.prog 65 #[.pointer (some ⟨ms, 0, none⟩)] w fun e w' =>
    e = .returned (.tuple #[]) ∧ Blk w' ms 87 ({ h with l4 := 0 } : Hd).cells ∧ Keep (fun k => k = ms) w w' := by
  have c4 : w.cell? ⟨ms, 0 + 4, none⟩ = some (.int .i32 1) := by rw [hb.cell]; simp [h4]
  refine (Go.RwLone.runlock_held rwRLib ms 0 1 (.int .i32 h.l0) (.int .u32 0) w (by rw [hb.cell]; rfl) (by rw [hb.cell]; rfl) c4 (hb.frozen 4) (by first | (rw [wr1]; decide) | (rw [wr2]; decide))).mono ?_
  rintro e w' ⟨rfl, rfl⟩
  rw [wr2]
  exact ⟨rfl, hb.set_ 4 _, keep1 w ms _ _⟩
end

/-- one -/
theorem one_nil (w : World) : Calls Tryz.prog 36 #[.nilIface] w fun e w' => e = .returned (.int .i64 0) ∧ w' = w := by
  go_enter Tryz.func36, Tryz.ntmps36
  go_wp2
  go_ret
  exact ⟨rfl, rfl⟩
theorem one_err (t : TypeId) (v : Value) (w : World) : Calls Tryz.prog 36 #[.iface t v] w fun e w' => e = .returned (.int .i64 1) ∧ w' = w := by
  go_enter Tryz.func36, Tryz.ntmps36
  go_wp2
  go_ret
  exact ⟨rfl, rfl⟩

/-- SetClock -/
theorem setClock_any {w : World} {ms : Nat} {h : Hd} (hb : Blk w ms 87 h.cells) (t : Int) : Calls Tryz.prog 16 #[.pointer (some ⟨ms, 0, none⟩), .int .i64 t] w fun e w' =>
    e = .returned (.tuple #[]) ∧ Blk w' ms 87 ({ h with ck := t } : Hd).cells ∧ Keep (fun k => k = ms) w w' := by
  have c : w.cell? ⟨ms, 32, none⟩ = some (.int .i64 h.ck) := by rw [hb.cell]; rfl
  have f : w.frozen? ⟨ms, 32, none⟩ = false := hb.frozen 32
  go_enter Tryz.func16, Tryz.ntmps16
  go_wp2
  go_end0
  exact ⟨rfl, hb.set_ 32 _, keep1 w ms _ _⟩

/-- Size of the tree -/
theorem size_any (tb : Nat) (n : Int) (w : World) (h : w.cell? ⟨tb, 1, none⟩ = some (.int .i64 n)) : Calls Tryz.prog 64 #[.pointer (some ⟨tb, 0, none⟩)] w fun e w' => e = .returned (.int .i64 n) ∧ w' = w := by
  go_enter Tryz.func64, Tryz.ntmps64
  go_wp2
  go_ret
  exact ⟨rfl, rfl⟩

/-- memStoreMsgSizeRaw, memStoreMsgSize -/
theorem sizeRaw_any (a b c : Nat) (w : World) (h : a + b + c ≤ 2305843009213693952) : Calls Tryz.prog 138 #[.int .i64 a, .int .i64 b, .int .i64 c] w fun e w' => e = .returned (.int .u64 ((a + b + c + 16 : Nat) : Int)) ∧ w' = w := by
  have w1 : wrap64 ((a : Int) + b) = a + b := by unfold wrap64; omega
  have w2 : wrap64 ((a : Int) + b + c) = a + b + c := by unfold wrap64; omega
  have w3 : wrap64 ((a : Int) + b + c + 16) = a + b + c + 16 := by unfold wrap64; omega
  go_enter Tryz.func138, Tryz.ntmps138
  go_wp2
  go_ret
  refine ⟨?_, rfl⟩
  congr 2

theorem msgSize_any (sj : Bs) (A1 A2 : Option Addr) (n1 c1 n2 c2 : Nat) (w : World) (h : sj.length + n1 + n2 ≤ 2305843009213693952) :
    Calls Tryz.prog 74 #[str sj, .slice A1 n1 c1, .slice A2 n2 c2] w fun e w' => e = .returned (.int .u64 ((sj.length + n1 + n2 + 16 : Nat) : Int)) ∧ w' = w := by
  have hs := fun w => sizeRaw_any sj.length n1 n2 w h
  go_enter Tryz.func74, Tryz.ntmps74
  go_wp2_with fail
  refine (hs _).mono ?_
  rintro e w' ⟨rfl, rfl⟩
  go_wp2
  go_ret
  exact ⟨rfl, rfl⟩

set_option maxHeartbeats 1000000 in
/-- enforceMsgLimit, enforceBytesLimit: nothing to do -/
theorem enfMsg_any {w : World} {ms : Nat} {h : Hd} (hb : Blk w ms 87 h.cells) (hd : (h.disc = 0 ∧ h.mm = 0) ∨ h.disc = 1) :
    Calls Tryz.prog 79 #[.pointer (some ⟨ms, 0, none⟩)] w fun e w' => e = .returned (.tuple #[]) ∧ ∃ q, w' = w.drewN q := by
  rcases hd with ⟨h1, h2⟩ | h1
  · have c : w.cell? ⟨ms, 11, none⟩ = some (.int .i64 0) := by rw [hb.cell]; simp [h1]
    have c' : ∀ q, (w.drewN q).cell? ⟨ms, 8, none⟩ = some (.int .i64 0) := fun q => by rw [World.cell?_drewN, hb.cell]; simp [h2]
    go_enter Tryz.func79, Tryz.ntmps79
    go_wp2
    go_quiet (fail)
    go_wp2
    refine bodyPost_ret (results_none rfl _ _ _) rfl ?_
    exact ⟨rfl, _, rfl⟩
  · have c : w.cell? ⟨ms, 11, none⟩ = some (.int .i64 1) := by rw [hb.cell]; simp [h1]
    go_enter Tryz.func79, Tryz.ntmps79
    go_wp2
    refine bodyPost_ret (results_none rfl _ _ _) rfl ?_
    exact ⟨rfl, 0, rfl⟩

set_option maxHeartbeats 1000000 in
theorem enfBytes_any {w : World} {ms : Nat} {h : Hd} (hb : Blk w ms 87 h.cells) (hd : h.disc = 0 ∨ h.disc = 1) :
    Calls Tryz.prog 80 #[.pointer (some ⟨ms, 0, none⟩)] w fun e w' => e = .returned (.tuple #[]) ∧ ∃ q, w' = w.drewN q := by
  rcases hd with h1 | h1
  · have c : w.cell? ⟨ms, 11, none⟩ = some (.int .i64 0) := by rw [hb.cell]; simp [h1]
    have c' : ∀ q, (w.drewN q).cell? ⟨ms, 9, none⟩ = some (.int .i64 0) := fun q => by rw [World.cell?_drewN, hb.cell]; rfl
    go_enter Tryz.func80, Tryz.ntmps80
    go_wp2
    go_quiet (fail)
    go_wp2
    refine bodyPost_ret (results_none rfl _ _ _) rfl ?_
    exact ⟨rfl, _, rfl⟩
  · have c : w.cell? ⟨ms, 11, none⟩ = some (.int .i64 1) := by rw [hb.cell]; simp [h1]
    go_enter Tryz.func80, Tryz.ntmps80
    go_wp2
    refine bodyPost_ret (results_none rfl _ _ _) rfl ?_
    exact ⟨rfl, 0, rfl⟩

end Go.Proofs.YtmblkpjnafgplaaGreatDoor

namespace Go.Proofs.YtmblkpjnafgplaaGreatDoor
open Go Go.RowKit
set_option maxRecDepth 100000
set_option linter.unusedVariables false
set_option linter.unusedSimpArgs false

/-- the head where the first number was set -/
structure Hd.Adj (h h1 : Hd) : Prop where
  l0 : h1.l0 = h.l0
  l4 : h1.l4 = h.l4
  mm : h1.mm = h.mm
  mp : h1.mp = h.mp
  disc : h1.disc = h.disc
  cnt : h1.cnt = h.cnt
  n : h1.n = h.n
  fsq : h1.fsq = if h.cnt = 0 then h.n + 1 else h.fsq
  r : h1.r = h.r
  tb : h1.tb = h.tb
  d0 : h1.d0 = h.d0
  byt : h1.byt = h.byt
  d1 : h1.d1 = h.d1
  d3 : h1.d3 = h.d3

theorem Hd.Adj.next {h h1 : Hd} (a : h.Adj h1) (x : Int) (y : Int) (hx : 0 ≤ x ∧ x ≤ 20000 * ((h.n : Int) + 1)) : h.Next { h1 with cnt := h.cnt + 1, byt := x, n := h.n + 1, lt := y } :=
  ⟨a.l0, a.l4, a.mm, a.mp, a.disc, rfl, rfl, a.fsq, a.r, a.tb, a.d0, hx, a.d1, a.d3⟩

/-- the message lies in its map, the head is not yet turned -/
structure Mid0 (w wx : World) (ms : Nat) (h : Hd) (its : List Item) (M : List Ent) (F : List Nat) (rc : Rec) (h1 : Hd) (b : Nat) : Prop where
  hd : Blk wx ms 87 h1.cells
  map : MapAt wx h.r ((its.map fun i => (i.seq, i.blk)) ++ [(h.n + 1, b)])
  keep : Keep (fun k => k = ms ∨ k = h.r) w wx
  msg : MsgAt wx (Mut ms h F) ⟨h.n + 1, b, rc⟩
  adj : h.Adj h1

theorem Mid0.up {w wx wy : World} {ms : Nat} {h : Hd} {its : List Item} {M : List Ent} {F : List Nat} {rc : Rec} {h1 h2 : Hd} {b : Nat} (m : Mid0 w wx ms h its M F rc h1 b) (S : StoreAt w ms h its M F) (hk : Keep (fun k => k = ms) wx wy) (hb : Blk wy ms 87 h2.cells) (hn : h.Next h2) :
    Mid w wy ms h its M F rc h2 b :=
  ⟨hb, m.map.keep hk (fun e => S.dis2.1 e.symm), m.keep.trans hk (fun k _ e => .inl e), m.msg.keep hk (fun k _ e => .inl e) (fun k _ h => h), hn⟩

/-- the message is made, it lies in no map yet -/
structure Made (w wx : World) (ms : Nat) (h : Hd) (F : List Nat) (rc : Rec) (h1 : Hd) (b : Nat) : Prop where
  hd : Blk wx ms 87 h1.cells
  keep : Keep (fun k => k = ms) w wx
  msg : MsgAt wx (Mut ms h F) ⟨h.n + 1, b, rc⟩
  adj : h.Adj h1

theorem Made.up {w wx wy : World} {ms : Nat} {h : Hd} {its : List Item} {M : List Ent} {F : List Nat} {rc : Rec} {h1 : Hd} {b : Nat} (m : Made w wx ms h F rc h1 b) (S : StoreAt w ms h its M F) (hk : Keep (fun k => k = h.r) wx wy)
    (hm : MapAt wy h.r ((its.map fun i => (i.seq, i.blk)) ++ [(h.n + 1, b)])) : Mid0 w wy ms h its M F rc h1 b :=
  ⟨hk.blk m.hd (fun e => S.dis2.1 e), hm, (m.keep.mono (fun k _ e => .inl e)).trans hk (fun k _ e => .inr e), m.msg.keep hk (fun k _ e => .inr (.inl e)) (fun k _ h => h), m.adj⟩

theorem Mid.drew {w wx : World} {ms : Nat} {h : Hd} {its : List Item} {M : List Ent} {F : List Nat} {rc : Rec} {h2 : Hd} {b : Nat} (m : Mid w wx ms h its M F rc h2 b) : Mid w wx.drew ms h its M F rc h2 b :=
  ⟨m.hd, m.map.keep ((Keep.refl NoB wx).drew) (fun h => h), m.keep.drew, m.msg.keep ((Keep.refl NoB wx).drew) (fun _ _ h => h.elim) (fun _ _ h => h), m.next⟩

theorem StoreAt.mut_lt {w : World} {ms : Nat} {h : Hd} {its : List Item} {M : List Ent} {F : List Nat} (S : StoreAt w ms h its M F) : ∀ k, Mut ms h F k → k < w.heap.size := by
  intro k hk
  rcases hk with rfl | rfl | rfl | hk | hk
  · exact S.hd.lt
  · exact S.mapA.lt
  · obtain ⟨root, hb, _⟩ := S.tree; exact hb.lt
  · obtain ⟨root, _, hr, _⟩ := S.tree
    rcases hr with ⟨_, _, rfl⟩ | hr
    · cases hk
    · exact hr.lt k hk
  · rcases S.dm with ⟨e0, _⟩ | ⟨nb, B, h1, h2, _⟩
    · rw [e0] at hk; cases hk
    · rw [h1] at hk
      injection hk with hk; injection hk with hk; injection hk with hk
      subst hk; exact h2.lt

theorem BRow.ne_blk {w : World} {base b : Nat} {A : Option Addr} {n c : Nat} {xs : Bs} {t : TypeId} {cs : Array Value} (h : BRow w base (.slice A n c) xs) (hb : Blk w b t cs) (ht : t ≠ 5) : ∀ k, blkOf A k → k ≠ b := by
  rintro k ⟨ad, rfl, rfl⟩ e
  rcases h.2 with ⟨h0, _⟩ | ⟨g, cap, cur, h0, _, hg, _⟩
  · injection h0 with h0; cases h0
  · injection h0 with h0; injection h0 with h0; subst h0
    simp only at e
    subst e
    have : Blk w g 5 cur := hg
    exact ht (hb.inj this).2

/-- a message in the making: its block b, its row of bytes v -/
structure Bld (w wx : World) (ms : Nat) (h : Hd) (rc : Rec) (h1 : Hd) (b : Nat) (hv dv v : Value) (xs : Bs) : Prop where
  hd : Blk wx ms 87 h1.cells
  keep : Keep (fun k => k = ms) w wx
  blk : Blk wx b 145 #[str rc.subj, hv, dv, v, .int .u64 ((h.n + 1 : Nat) : Int), .int .i64 rc.ts]
  row : BRow wx w.heap.size v xs
  ge : w.heap.size ≤ b
  adj : h.Adj h1

theorem BRow.ty {w : World} {base n c : Nat} {A : Option Addr} {xs : Bs} (h : BRow w base (.slice A n c) xs) : ∀ k, blkOf A k → ∃ cs, Blk w k 5 cs := by
  rintro k ⟨ad, rfl, rfl⟩
  rcases h.2 with ⟨h0, _⟩ | ⟨g, cap, cur, h0, _, hg, _⟩
  · injection h0 with h0; cases h0
  · injection h0 with h0; injection h0 with h0; subst h0
    exact ⟨cur, hg⟩

/-- the header's part of the row -/
def HdrAt (w wx : World) (b : Nat) (hv : Value) (s : Bs) : Prop := ∃ A1 c1, hv = .slice A1 s.length c1 ∧ RowAt wx 1 A1 s.length (s.map byteV) ∧ s.length ≤ c1 ∧ ∀ k, blkOf A1 k → w.heap.size ≤ k ∧ k < wx.heap.size ∧ k ≠ b ∧ ∃ cs, Blk wx k 5 cs

theorem Bld.made {w wx : World} {ms : Nat} {h : Hd} {its : List Item} {M : List Ent} {F : List Nat} {rc : Rec} {h1 : Hd} {b : Nat} {hv dv : Value} {A : Option Addr} {c : Nat} (S : StoreAt w ms h its M F)
    (m : Bld w wx ms h rc h1 b hv dv (.slice A (rc.hdr ++ rc.dat).length c) (rc.hdr ++ rc.dat)) (hh : HdrAt w wx b hv rc.hdr) :
    Made w (wx.setCell ⟨b, 2, none⟩ (.slice (cutA A c rc.hdr.length) ((rc.hdr ++ rc.dat).length - rc.hdr.length) (c - rc.hdr.length))) ms h F rc h1 b := by
  have hmsb : ms ≠ b := fun e => by have := S.hd.lt; have := m.ge; omega
  obtain ⟨A', c', e', hc1, _, hr, hk⟩ := m.row.row
  injection e' with e1 e2 e3
  subst e1; subst e3
  have hne := m.row.ne_blk m.blk (by decide)
  obtain ⟨A1, c1, rfl, r1, l1, k1⟩ := hh
  have hs := (keep1 wx b 2 (.slice (cutA A c rc.hdr.length) ((rc.hdr ++ rc.dat).length - rc.hdr.length) (c - rc.hdr.length)))
  have hlen : (rc.hdr ++ rc.dat).length - rc.hdr.length = rc.dat.length := by simp
  have hnm : ∀ k, w.heap.size ≤ k → ¬ Mut ms h F k := fun k hk hM => by have := S.mut_lt k hM; omega
  refine ⟨hs.blk m.hd hmsb, m.keep.trans hs (fun k hk' e => by have := m.ge; omega), ?_, m.adj⟩
  have hb2 := m.blk.set_ 2 (.slice (cutA A c rc.hdr.length) ((rc.hdr ++ rc.dat).length - rc.hdr.length) (c - rc.hdr.length))
  have hdrop : (rc.hdr ++ rc.dat).drop rc.hdr.length = rc.dat := by simp
  have hcut := hr.cut (i := rc.hdr.length) (by simp) hc1
  rw [hdrop, hlen] at hcut
  rw [hlen] at hb2 ⊢
  refine ⟨A1, c1, cutA A c rc.hdr.length, c - rc.hdr.length, A, c, hb2, hnm b m.ge, ?_, ?_, ?_, l1, ?_, hc1, ?_, ?_⟩
  · exact r1.keep (keep1 wx b 2 _) (fun k hk _ e => (k1 k hk).2.2.1 e)
  · exact hcut.keep (keep1 wx b 2 _) (fun k hk _ e => hne k (blkOf_cut hk) e)
  · exact hr.keep (keep1 wx b 2 _) (fun k hk _ e => hne k hk e)
  · show rc.dat.length ≤ c - rc.hdr.length
    simp at hc1; omega
  · rintro k (hk' | hk' | hk')
    · exact ⟨by simpa using (k1 k hk').2.1, hnm k (k1 k hk').1⟩
    · have := hk k (blkOf_cut hk')
      exact ⟨by simpa using this.2, hnm k this.1⟩
    · have := hk k hk'
      exact ⟨by simpa using this.2, hnm k this.1⟩
  · have h5 : ∀ k, blkOf A k → ∃ cs, Blk (wx.setCell ⟨b, 2, none⟩ (.slice (cutA A c rc.hdr.length) rc.dat.length (c - rc.hdr.length))) k 5 cs := fun k hk' => by
      obtain ⟨cs, h5⟩ := m.row.ty k hk'
      exact ⟨cs, (keep1 wx b 2 _).blk h5 (fun e => hne k hk' e)⟩
    rintro k (hk' | hk' | hk')
    · obtain ⟨_, _, hkb, cs, h5⟩ := k1 k hk'
      exact ⟨cs, (keep1 wx b 2 _).blk h5 (fun e => hkb e)⟩
    · exact h5 k (blkOf_cut hk')
    · exact h5 k hk'

theorem cut_h (A : Option Addr) (n c j : Nat) (hj : j ≤ c) (w : World) : (Instr.slice 37 (.slice A n c) none (some (.int .i64 (j : Int))) none).run Tryz.prog w = .ok (.slice (cutA A c 0) j c) w := by
  rw [run_slice_h (P := Tryz.prog) w 37 A n c (by simp [Program.elem, Tryz.underlying37]) .i64 j (by omega) (by omega)]
  simp [Program.elem, Tryz.underlying37, Tryz.sizeOf5, sliced, cutA]

theorem HdrAt.nil_ (w wx : World) (b : Nat) : HdrAt w wx b (.slice none 0 0) [] := ⟨none, 0, rfl, .nil_ _ _ _, Nat.le_refl _, fun k hk => by obtain ⟨ad, e, _⟩ := hk; cases e⟩

theorem Bld.hdr {w wx : World} {ms : Nat} {h : Hd} {its : List Item} {M : List Ent} {F : List Nat} {rc : Rec} {h1 : Hd} {b : Nat} {hv dv : Value} {A : Option Addr} {c : Nat} (S : StoreAt w ms h its M F)
    (m : Bld w wx ms h rc h1 b hv dv (.slice A (rc.hdr ++ rc.dat).length c) (rc.hdr ++ rc.dat)) :
    Bld w (wx.setCell ⟨b, 1, none⟩ (.slice (cutA A c 0) rc.hdr.length c)) ms h rc h1 b (.slice (cutA A c 0) rc.hdr.length c) dv (.slice A (rc.hdr ++ rc.dat).length c) (rc.hdr ++ rc.dat) ∧
      HdrAt w (wx.setCell ⟨b, 1, none⟩ (.slice (cutA A c 0) rc.hdr.length c)) b (.slice (cutA A c 0) rc.hdr.length c) rc.hdr := by
  have hmsb : ms ≠ b := fun e => by have := S.hd.lt; have := m.ge; omega
  obtain ⟨A', c', e', hc1, hcm, hr, hk⟩ := m.row.row
  injection e' with e1 e2 e3
  subst e1; subst e3
  have hne := m.row.ne_blk m.blk (by decide)
  have hs := (keep1 wx b 1 (.slice (cutA A c 0) rc.hdr.length c))
  have hlt : rc.hdr.length ≤ (rc.hdr ++ rc.dat).length := by simp
  refine ⟨⟨hs.blk m.hd hmsb, m.keep.trans hs (fun k hk' e => by have := m.ge; omega), m.blk.set_ 1 _, ?_, m.ge, m.adj⟩, ⟨_, _, rfl, ?_, by omega, ?_⟩⟩
  · refine m.row.kept (w' := wx.setCell ⟨b, 1, none⟩ (.slice (cutA A c 0) rc.hdr.length c)) (row := some b) ⟨hs.os, hs.tape, hs.output, hs.size, fun k hk hn => hs.block k hk (fun e => hn (by rw [e]))⟩ ?_
    cases A with
    | none => exact .inl rfl
    | some ad => exact .inr (fun e => hne ad.block ⟨ad, rfl, rfl⟩ (by injection e))
  · have h0 := (hr.cut (i := 0) (Nat.zero_le _) hc1).take (j := rc.hdr.length) (by omega)
    have e1 : ((rc.hdr ++ rc.dat).drop 0).take rc.hdr.length = rc.hdr := by simp
    rw [e1] at h0
    exact h0.keep (keep1 wx b 1 _) (fun k hk _ e => hne k (blkOf_cut hk) e)
  · intro k hk'
    have := hk k (blkOf_cut hk')
    obtain ⟨cs, h5⟩ := m.row.ty k (blkOf_cut hk')
    exact ⟨this.1, by simpa using this.2, hne k (blkOf_cut hk'), cs, (keep1 wx b 1 _).blk h5 (fun e => hne k (blkOf_cut hk') e)⟩

theorem BRow.own_ne {w : World} {base b : Nat} {v : Value} {xs : Bs} {t : TypeId} {cs : Array Value} (h : BRow w base v xs) (hb : Blk w b t cs) (ht : t ≠ 5) : v.ownBlock ≠ some b := by
  intro e
  rcases h.2 with ⟨rfl, _⟩ | ⟨g, cap, cur, rfl, _, hg, _⟩
  · cases e
  · injection e with e
    simp only at e
    subst e
    have : Blk w g 5 cur := hg
    exact ht (hb.inj this).2
theorem BRow.grown_blk {w w' : World} {base b : Nat} {v : Value} {xs : Bs} {t : TypeId} {cs : Array Value} (h : BRow w base v xs) (hb : Blk w b t cs) (ht : t ≠ 5) (hg : w.grownBy w' v.ownBlock) : Blk w' b t cs :=
  (hg.block b hb.lt (fun e => h.own_ne hb ht e.symm)).trans hb
theorem BRow.mono {w : World} {base base' : Nat} {v : Value} {xs : Bs} (h : BRow w base v xs) (hb : base' ≤ base) : BRow w base' v xs := by
  refine ⟨h.1, h.2.imp id ?_⟩
  rintro ⟨g, cap, cur, e, hg, hr⟩
  exact ⟨g, cap, cur, e, Nat.le_trans hb hg, hr⟩
theorem BRow.put {w : World} {base b : Nat} {v : Value} {xs : Bs} {t : TypeId} {cs : Array Value} (h : BRow w base v xs) (hb : Blk w b t cs) (ht : t ≠ 5) (i : Nat) (u : Value) : BRow (w.setCell ⟨b, i, none⟩ u) base v xs := by
  have hs := keep1 w b i u
  refine h.kept (w' := w.setCell ⟨b, i, none⟩ u) (row := some b) ⟨hs.os, hs.tape, hs.output, hs.size, fun k hk hn => hs.block k hk (fun e => hn (by rw [e]))⟩ (.inr (h.own_ne hb ht))
theorem Keep.above {a b : World} (h : Keep NoB a b) {g : Nat} (hg : a.heap.size ≤ g) (i : Nat) (u : Value) : Keep NoB a (b.setCell ⟨g, i, none⟩ u) :=
  h.setCell (p := ⟨g, i, none⟩) (fun hx => by simp only at hx; omega) u

theorem BRow.shape {w : World} {base : Nat} {v : Value} {xs : Bs} (h : BRow w base v xs) : ∃ A n c, v = .slice A n c := by
  obtain ⟨A, c, e, _⟩ := h.row
  exact ⟨A, _, c, e⟩

theorem Hd.adj_self {h : Hd} (hc : 0 < h.cnt) : h.Adj h := ⟨rfl, rfl, rfl, rfl, rfl, rfl, rfl, by rw [if_neg (by omega)], rfl, rfl, rfl, rfl, rfl, rfl⟩
theorem Hd.adj_first {h : Hd} (hc : h.cnt = 0) (t : Int) : h.Adj { h with fsq := h.n + 1, ft := t } := ⟨rfl, rfl, rfl, rfl, rfl, rfl, rfl, by rw [if_pos hc], rfl, rfl, rfl, rfl, rfl, rfl⟩

end Go.Proofs.YtmblkpjnafgplaaGreatDoor

namespace Go.Proofs.YtmblkpjnafgplaaGreatDoor
open Go Go.RowKit
set_option maxRecDepth 100000
set_option linter.unusedVariables false
set_option linter.unusedSimpArgs false

/-- the head behind a message that was taken out -/
structure Hd.Less (h h' : Hd) : Prop where
  l0 : h'.l0 = h.l0
  l4 : h'.l4 = h.l4
  mm : h'.mm = h.mm
  mp : h'.mp = h.mp
  disc : h'.disc = h.disc
  cnt : h'.cnt + 1 = h.cnt
  n : h'.n = h.n
  r : h'.r = h.r
  tb : h'.tb = h.tb
  byt : 0 ≤ h'.byt ∧ h'.byt ≤ 20000 * (h.n : Int)

theorem Hd.Less.kin {h h2 : Hd} (n : h.Less h2) : h.Kin h2 := ⟨n.l0, n.l4, n.mm, n.mp, n.disc⟩

theorem seqs_split (A B : List Item) (i : Item) (s : Bs) : seqs (A ++ i :: B) s = seqs A s ++ ((if i.rc.subj = s then [i.seq] else []) ++ seqs B s) := by
  unfold seqs
  rw [List.filter_append, List.map_append]
  congr 1
  by_cases h : i.rc.subj = s <;> simp [h]
theorem seqs_two (A B : List Item) (s : Bs) : seqs (A ++ B) s = seqs A s ++ seqs B s := by
  unfold seqs; rw [List.filter_append, List.map_append]
theorem seqs_none {A : List Item} {s : Bs} (h : ∀ j ∈ A, j.rc.subj ≠ s) : seqs A s = [] := by
  unfold seqs
  rw [List.filter_eq_nil_iff.2 (fun j hj => by simpa using h j hj)]; rfl

theorem pairs_erase {A B : List Item} {i : Item} (h : ∀ j ∈ A, j.rc.subj ≠ i.rc.subj) : (pairs (A ++ i :: B)).eraseP (fun x => x.2.subj == i.rc.subj) = pairs (A ++ B) := by
  unfold pairs
  rw [List.map_append, List.map_append, List.map_cons, List.eraseP_append_right _ (fun x hx => by
    obtain ⟨j, hj, rfl⟩ := List.mem_map.1 hx
    simpa using h j hj)]
  rw [List.eraseP_cons_of_pos (by simp)]

/-- the first of a subject's messages, between what is ahead of it and what is behind it -/
theorem first_split {its : List Item} {s : Bs} {k : Nat} (h : (seqs its s).head? = some k) : ∃ A i B, its = A ++ i :: B ∧ i.seq = k ∧ i.rc.subj = s ∧ ∀ j ∈ A, j.rc.subj ≠ s := by
  induction its with
  | nil => simp [seqs] at h
  | cons j t ih =>
    by_cases hj : j.rc.subj = s
    · refine ⟨[], j, t, rfl, ?_, hj, fun _ hx => by cases hx⟩
      unfold seqs at h
      rw [List.filter_cons_of_pos (by simpa using hj)] at h
      simpa using h
    · have ht : (seqs t s).head? = some k := by
        unfold seqs at h ⊢
        rw [List.filter_cons_of_neg (by simpa using hj)] at h
        exact h
      obtain ⟨A, i, B, e, e1, e2, e3⟩ := ih ht
      refine ⟨j :: A, i, B, by rw [e]; rfl, e1, e2, fun x hx => ?_⟩
      rcases List.mem_cons.1 hx with rfl | hx
      · exact hj
      · exact e3 x hx

theorem StoreAt.removed {w w' : World} {ms : Nat} {h h' : Hd} {its A B : List Item} {i : Item} {M : List Ent} {F : List Nat} {b : Nat} {G : Nat → Prop}
    (S : StoreAt w ms h its M F) (e : its = A ++ i :: B) (hB : B ≠ []) (hM : (i.rc.subj, b) ∈ M) (hmp : 0 < h.mp) (hl : h.Less h') (hfs : ∀ j, (A ++ B).head? = some j → h'.fsq = j.seq)
    (hk : Keep G w w') (hG : ∀ k, k < w.heap.size → G k → k = ms ∨ k = h.r ∨ k = b ∨ h.d0 = .pointer (some ⟨k, 0, none⟩))
    (hb : Blk w' ms 87 h'.cells) (hm : MapAt w' h.r ((A ++ B).map fun i => (i.seq, i.blk))) (ht : TreeAt w' h.tb M.length M F) (hsub : SubAt w' (A ++ B) (i.rc.subj, b))
    (hd : DAt w' h'.d0 (fun k => h'.fsq < k ∧ k ≤ h.n ∧ k ∉ (A ++ B).map Item.seq)) (hd0 : ∀ k, h'.d0 = .pointer (some ⟨k, 0, none⟩) → h.d0 = .pointer (some ⟨k, 0, none⟩) ∨ w.heap.size ≤ k) :
    StoreAt w' ms h' (A ++ B) M F ∧ (∀ k, Mut ms h' F k → Mut ms h F k ∨ w.heap.size ≤ k) := by
  obtain ⟨d1, d2, d3⟩ := S.dis2
  obtain ⟨d4, d5⟩ := S.dis1
  have hbF := (S.tree.mem _ hM).1
  have hmem : ∀ j ∈ A ++ B, j ∈ its := fun j hj => by
    rw [e]
    rcases List.mem_append.1 hj with h | h
    · exact List.mem_append.2 (.inl h)
    · exact List.mem_append.2 (.inr (List.mem_cons_of_mem _ h))
  have hne : A ++ B ≠ [] := fun hx => hB (List.append_eq_nil_iff.1 hx).2
  have hsl : (A ++ B).Sublist its := by rw [e]; exact (List.Sublist.refl A).append (List.sublist_cons_self i B)
  have hMut : ∀ k, Mut ms h' F k → Mut ms h F k ∨ w.heap.size ≤ k := by
    intro k hM
    unfold Mut at hM ⊢
    rw [hl.r, hl.tb] at hM
    rcases hM with h | h | h | h | h
    · exact .inl (.inl h)
    · exact .inl (.inr (.inl h))
    · exact .inl (.inr (.inr (.inl h)))
    · exact .inl (.inr (.inr (.inr (.inl h))))
    · exact (hd0 k h).imp (fun h => .inr (.inr (.inr (.inr h)))) id
  have hGM : ∀ k, k < w.heap.size → G k → Mut ms h F k := fun k hk hx => by
    rcases hG k hk hx with h | h | h | h
    · exact .inl h
    · exact .inr (.inl h)
    · exact .inr (.inr (.inr (.inl (h ▸ hbF))))
    · exact .inr (.inr (.inr (.inr h)))
  refine ⟨?_, hMut⟩
  constructor
  · exact hb
  · rw [hl.mp, hl.disc]; exact S.mode
  · rw [hl.mp, hl.mm]; exact S.mpb
  · rw [hl.mm, hl.disc]; exact S.disc
  · rw [hl.r]; exact hm
  · exact S.srt.sublist (hsl.map _)
  · intro j hj; rw [hl.n]; exact S.num j (hmem j hj)
  · rw [hl.n]; exact S.few
  · rw [hl.n]; exact hl.byt
  · have h1 := hl.cnt
    have h2 := S.cnt
    rw [e] at h2
    simp only [List.length_append, List.length_cons] at h2 ⊢
    omega
  · rw [hl.n]
    constructor
    · intro hx; exact absurd hx hne
    · intro hx; have := S.none0.2 hx; rw [e] at this; simp at this
  · exact hfs
  · intro hx; exact absurd hx hne
  · intro j hj; exact S.ok j (hmem j hj)
  · intro j hj
    exact (S.msg j (hmem j hj)).keep hk hGM (fun k hk' hx => (hMut k hx).elim id (fun h => by omega))
  · rw [hl.tb]; exact ht
  · exact S.uniq
  · intro j hj; exact S.key j (hmem j hj)
  · intro x hx
    by_cases hxe : x.1 = i.rc.subj
    · obtain rfl : x = (i.rc.subj, b) := inj_of_nodup S.uniq hx hM hxe
      exact hsub
    · have hxF := (S.tree.mem x hx).1
      have hxb : ¬ x.2 = b := fun hy => hxe (by rw [inj_of_nodup (f := Prod.snd) S.tree.nodup2 hx hM hy])
      have hxlt : x.2 < w.heap.size := S.mut_lt x.2 (.inr (.inr (.inr (.inl hxF))))
      have hs := (S.sub x hx).keep hk (fun hg => by
        rcases hG _ hxlt hg with h | h | h | h
        · exact d4 (h ▸ hxF)
        · exact d5 (h ▸ hxF)
        · exact hxb h
        · exact (S.dis3 _ h).2.2.2 hxF)
      unfold SubAt at hs ⊢
      rw [e] at hs
      rw [seqs_split, if_neg (fun hy => hxe hy.symm), List.nil_append] at hs
      rw [seqs_two]
      obtain ⟨fs, ls, fn, ⟨j, hj, hje⟩, hr⟩ := hs
      refine ⟨fs, ls, fn, ⟨j, ?_, hje⟩, hr⟩
      rcases List.mem_append.1 hj with h | h
      · exact List.mem_append.2 (.inl h)
      · rcases List.mem_cons.1 h with rfl | h
        · exact absurd hje.symm hxe
        · exact List.mem_append.2 (.inr h)
  · rw [hl.n]; exact hd
  · rw [hl.mp]; intro hx; omega
  · rw [hl.r]; exact ⟨d4, d5⟩
  · rw [hl.r, hl.tb]; exact ⟨d1, d2, d3⟩
  · rw [hl.r, hl.tb]
    intro k hk'
    rcases hd0 k hk' with hx | hx
    · exact S.dis3 k hx
    · have hlt := S.mut_lt
      exact ⟨fun hy => by have := hlt ms (.inl rfl); omega, fun hy => by have := hlt h.r (.inr (.inl rfl)); omega, fun hy => by have := hlt h.tb (.inr (.inr (.inl rfl))); omega, fun hy => by have := hlt k (.inr (.inr (.inr (.inl hy)))); omega⟩

end Go.Proofs.YtmblkpjnafgplaaGreatDoor
