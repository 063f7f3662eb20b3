/- Insert at the tree. The store in memory: what holds of its blocks. No walk here. A message put into the store: plain laws of what the steps leave behind. No walk here. -/
import Derived.Test.YtmblkpjnafgplaaGreatDoorR07
import Derived.Lib.BytesEntry
import Derived.Deep.RegionHeld3
import Derived.Deep.DeepCutAuto
import Derived.Test.YtmblkpjnafgplaaGreatDoorR02
namespace Go.Proofs.YtmblkpjnafgplaaGreatDoor
open Go Go.RowKit
set_option maxRecDepth 100000
set_option linter.unusedVariables false
set_option linter.unusedSimpArgs false

theorem indexByte_none : ∀ {l : List UInt8} {c : UInt8}, c ∉ l → Lib.indexByte l c = -1
  | [], _, _ => rfl
  | b :: l, c, h => by
    have h1 : ¬ b = c := fun e => h (by simp [e])
    have h2 := indexByte_none (l := l) (c := c) (fun e => h (by simp [e]))
    simp [Lib.indexByte, h1, h2]

theorem bytesOf_nat (s : Bs) : Lib.bytesOf (s.map fun b => (b.toNat : Int)) = s := by
  induction s with
  | nil => rfl
  | cons b s ih => simp only [List.map_cons, Lib.bytesOf, List.cons.injEq] at ih ⊢; exact ⟨by simp, ih⟩

set_option maxHeartbeats 1000000 in
set_option maxRecDepth 100000 in
theorem indexByte_any (A : Option Addr) (n c : Nat) (s : Bs) (cv : Int) (w : World) (h : RowAt w 1 A n (s.map byteV)) :
    Calls Tryz.prog 186 #[.slice A n c, .int .u8 cv] w fun e w' => e = .returned (.int .i64 (Lib.indexByte s cv.toNat.toUInt8)) ∧ w' = w := by
  have hl : s.length = n := by simpa using h.1
  have key : (Extern.BytealgIndexByte.indexByte #[.slice A n c, .int .u8 cv]).run Tryz.prog w = .ok (.int .i64 (Lib.indexByte s cv.toNat.toUInt8)) w := by
    rcases Nat.eq_zero_or_pos n with rfl | hn
    · obtain rfl := List.eq_nil_of_length_eq_zero hl
      have := Lib.run_indexByteString (P := Tryz.prog) .empty cv w
      cases A with
      | none => exact this
      | some ad => exact this
    · obtain ⟨⟨ab, ao, as_⟩, rfl, rfl, hc⟩ := h.2 hn
      have := Lib.run_indexByteSlice (P := Tryz.prog) (w := w) ab ao n c (s.map fun b => (b.toNat : Int)) (by simpa using hl) (fun i hi => by
        refine hc i _ ?_
        simp [List.getElem?_eq_getElem (show i < s.length by omega)]) cv
      rwa [bytesOf_nat] at this
  go_enter Tryz.func186, Tryz.ntmps186
  go_wp2
  rw [run_callFunc_extern Tryz.func232 (by kernel_rfl) (by kernel_rfl) (by kernel_rfl) (e := Extern.BytealgIndexByte.indexByte) (by kernel_rfl), key]
  simp only [Result.andThen]
  rw [Oper.upon_value]
  go_wp2
  go_ret
  exact ⟨rfl, rfl⟩

/-- the subject tree at its block -/
def TreeAt (w : World) (tb : Nat) (sz : Int) (M : List Ent) (F : List Nat) : Prop :=
  ∃ root, Blk w tb 199 #[root, .int .i64 sz] ∧ ((root = .nilIface ∧ M = [] ∧ F = []) ∨ TNode w root M F) ∧ F.Nodup ∧ tb ∉ F

/-- what Insert leaves behind -/
structure InsT (tb : Nat) (sz : Int) (M : List Ent) (F : List Nat) (t : Bs) (vs : List Value) (w w' : World) : Prop where
  ex : ∃ (M' : List Ent) (F' : List Nat) (bl : Nat) (sf : Bs), TreeAt w' tb (sz + 1) M' F' ∧ M'.Perm ((t, bl) :: M) ∧ (∀ k ∈ F', k ∈ F ∨ w.heap.size ≤ k) ∧ w.heap.size ≤ bl ∧ Blk w' bl 267 (vs ++ [str sf]).toArray
  old : ∀ e ∈ M, ∀ j, j < 5 → w'.cell? ⟨e.2, j, none⟩ = w.cell? ⟨e.2, j, none⟩
  kept : Keep (fun k => k ∈ F ∨ k = tb) w w'

set_option maxHeartbeats 4000000 in
set_option maxRecDepth 100000 in
theorem insert_tree (tb : Nat) (A : Option Addr) (n c : Nat) (s : Bs) (x y z : Int) (p q : Bool) (sz : Int) (M : List Ent) (F : List Nat) (w : World) (ht : TreeAt w tb sz M F)
    (h : RowAt w 1 A n (s.map byteV)) (hn : n ≤ 2305843009213693952) (hnc : n ≤ c) (n2 : 127 ∉ s) (hsz : 0 ≤ sz ∧ sz < 1000) (hA : ∀ k, blkOf A k → k ∉ F ∧ k ≠ tb)
    (h127 : No127 M) (hsh : Short M) (hM40 : M.length < 40) (hnew : ∀ b, (s, b) ∉ M) :
    Calls Tryz.prog 124 #[.pointer (some ⟨tb, 0, none⟩), .slice A n c, ssa x y z p q] w fun e w' => e = .returned (.tuple #[.pointer none, .bool false]) ∧ InsT tb sz M F s (ssv x y z p q) w w' := by
  obtain ⟨root, hb, hroot, hF, hpb⟩ := ht
  have hidx := indexByte_any A n c s 127 (boxed w x y z p q) (h.keep ((Keep.refl NoB w).alloc _) (fun _ _ _ h => h))
  rw [show Lib.indexByte s (Int.toNat 127).toUInt8 = -1 from indexByte_none n2] at hidx
  have hins : ∀ w1, Keep NoB w w1 → Calls Tryz.prog 187 #[.pointer (some ⟨tb, 0, none⟩), .pointer (some ⟨tb, 0, none⟩), .slice A n c, ssa x y z p q, .int .i64 0] w1 (fun e w' => e = .returned (.tuple #[.pointer none, .bool false]) ∧ InsAt tb 0 199 #[root, .int .i64 sz] M F s (ssv x y z p q) w w' ∧ Keep (fun k => k ∈ F ∨ k = tb) w1 w') := by
    intro w1 hk1
    have hltb : ∀ e ∈ M, e.2 < w.heap.size := by
      intro e he
      rcases hroot with ⟨_, rfl, _⟩ | hr
      · cases he
      · exact (hr.mem_blk e he).2.elim fun C hC => hC.1.lt
    rcases hroot with ⟨rfl, rfl, rfl⟩ | hr
    · refine (ins_nil _ tb 0 A n c s x y z p q 199 _ w1 (hk1.blk hb (fun h => h)) rfl (h.keep hk1 (fun _ _ _ h => h))).mono ?_
      rintro e w' ⟨he, hi⟩
      exact ⟨he, hi.from_ hk1 hltb, hi.kept⟩
    · have := ins_any (.pointer (some ⟨tb, 0, none⟩)) A n c s x y z p q hn hnc n2 F.length tb 0 0 root M F 199 _ w1 (Nat.le_refl _) (hr.keep hk1 (fun _ _ _ h => h)) (hk1.blk hb (fun h => h)) rfl
        (h.keep hk1 (fun _ _ _ h => h)) (Nat.zero_le _) hF hpb hA h127 hsh hM40 (by simpa using hnew)
      rw [List.drop_zero] at this
      refine this.mono ?_
      rintro e w' ⟨he, hi⟩
      exact ⟨he, hi.from_ hk1 hltb, hi.kept⟩
  have hFlt : ∀ k ∈ F, k < w.heap.size := by
    rcases hroot with ⟨_, _, rfl⟩ | hr
    · intro k hk; cases hk
    · exact hr.lt
  have HINS := Lib.hid hins
  have HB := Lib.hid hb
  clear hins hb hroot h
  go_enter Tryz.func124, Tryz.ntmps124
  go_wp2_with fail
  refine hidx.mono ?_
  rintro e w1 ⟨rfl, rfl⟩
  have hk0 : Keep NoB w (boxed w x y z p q) := (Keep.refl NoB w).alloc _
  have hB := Blk.new w 112 #[.int .u64 x, .int .u64 y, .int .u64 z, .bool p, .bool q]
  change Blk (boxed w x y z p q) w.heap.size 112 _ at hB
  generalize boxed w x y z p q = W0 at *
  go_wp2_with fail
  have v0 : W0.cell? ⟨w.heap.size, 0, none⟩ = some (.int .u64 x) := cellOf hB rfl
  have v1 : W0.cell? ⟨w.heap.size, 1, none⟩ = some (.int .u64 y) := cellOf hB rfl
  have v2 : W0.cell? ⟨w.heap.size, 2, none⟩ = some (.int .u64 z) := cellOf hB rfl
  have v3 : W0.cell? ⟨w.heap.size, 3, none⟩ = some (.bool p) := cellOf hB rfl
  have v4 : W0.cell? ⟨w.heap.size, 4, none⟩ = some (.bool q) := cellOf hB rfl
  have hbx : ¬ (w.heap.size ∈ F ∨ w.heap.size = tb) := by
    rintro (h | h)
    · exact absurd (hFlt _ h) (Nat.lt_irrefl _)
    · have := HB.out.lt; omega
  go_cut [8, 9] (fun a8 a9 wx => a8 = .pointer none ∧ a9 = .bool false ∧ InsAt tb 0 199 #[root, .int .i64 sz] M F s (ssv x y z p q) w wx)
  case first =>
    go_region_held3 (fun w' => w'.cell? ⟨w.heap.size, 0, none⟩ = some (.int .u64 x) ∧ w'.cell? ⟨w.heap.size, 1, none⟩ = some (.int .u64 y) ∧ w'.cell? ⟨w.heap.size, 2, none⟩ = some (.int .u64 z) ∧ w'.cell? ⟨w.heap.size, 3, none⟩ = some (.bool p) ∧ w'.cell? ⟨w.heap.size, 4, none⟩ = some (.bool q)) (first | exact ⟨v0, v1, v2, v3, v4⟩ | exact ⟨hk5.cellS v0 hbx, hk5.cellS v1 hbx, hk5.cellS v2 hbx, hk5.cellS v3 hbx, hk5.cellS v4 hbx⟩)
      (first | (go_at_call 187; with_reducible refine (HINS.out _ hk0.drew).mono ?_; rintro e w5 ⟨rfl, hi5, hk5⟩))
    all_goals go_wp2_with fail
    all_goals go_meet
    all_goals exact ⟨rfl, rfl, hi5⟩
  case rest =>
    obtain ⟨rfl, rfl, hi⟩ := hcut
    obtain ⟨nv', M', F', bl, sf, h1, h2, h3, h4, h5, h6, h7⟩ := hi.ex
    have hmod : wc.cell? ⟨tb, 1, none⟩ = some (.int .i64 sz) := cellOf h1 rfl
    have hfr : wc.frozen? ⟨tb, 1, none⟩ = false := h1.frozen 1
    have hw : wrap64 (sz + 1) = sz + 1 := by unfold wrap64; omega
    have hnotb : tb ∉ F' := by
      intro h
      rcases h5 _ h with h | h
      · exact hpb h
      · have := HB.out.lt; omega
    have hMtb : ∀ e ∈ M, e.2 ≠ tb := by
      intro e he h
      obtain ⟨C, hC, _⟩ := (h2.mem_blk e (h3.symm.subset (List.mem_cons_of_mem _ he))).2
      have := h1.ne_ hC (by decide)
      exact this h.symm
    go_wp2_with fail
    go_ret2
    refine ⟨rfl, ⟨M', F', bl, sf, ⟨nv', ?_, .inr ?_, h4, ?_⟩, h3, h5, h6, ?_⟩, ?_, ?_⟩
    · exact h1.set_ 1 _
    · exact h2.same fun b hb => Below.heap_setCell _ _ _ _ (fun (e : b = tb) => hnotb (e ▸ hb))
    · exact hnotb
    · exact h7.far (fun (e : bl = tb) => by have := HB.out.lt; omega) _
    · intro e he j hj
      rw [World.cell?_setCell_other _ _ _ _ (by intro h; injection h with h; exact hMtb e he h.symm)]
      exact hi.old e he j hj
    · exact hi.kept.setCell (p := ⟨tb, 1, none⟩) (fun _ => .inr rfl) _

end Go.Proofs.YtmblkpjnafgplaaGreatDoor

namespace Go.Proofs.YtmblkpjnafgplaaGreatDoor
open Go Go.RowKit
set_option maxRecDepth 100000
set_option linter.unusedVariables false
set_option linter.unusedSimpArgs false

/-- a message's parts -/
structure Rec where
  subj : Bs
  hdr : Bs
  dat : Bs
  ts : Int
  deriving DecidableEq

/-- small enough that no sum wraps -/
structure Rec.Ok (r : Rec) : Prop where
  s0 : r.subj ≠ []
  s1 : r.subj.length ≤ 4096
  s2 : 127 ∉ r.subj
  h1 : r.hdr.length ≤ 4096
  d1 : r.dat.length ≤ 4096

/-- a message that the store holds: its number, its block, its parts -/
structure Item where
  seq : Nat
  blk : Nat
  rc : Rec

/-- the store's own cells -/
structure Hd where
  l0 : Int
  l4 : Int
  mm : Nat
  mp : Nat
  disc : Nat
  cnt : Nat
  byt : Int
  fsq : Nat
  ft : Int
  n : Nat
  lt : Int
  r : Nat
  tb : Nat
  d0 : Value
  d1 : Int
  d2 : Int
  d3 : Bool
  ck : Int

abbrev Hd.cells (h : Hd) : Array Value :=
  #[.int .i32 h.l0, .int .u32 0, .int .u32 0, .int .u32 0, .int .i32 h.l4, .int .i32 0,
    .string ⟨#[]⟩, .slice none 0 0, .int .i64 (h.mm : Int), .int .i64 0, .int .i64 (h.mp : Int), .int .i64 (h.disc : Int), .bool false, .int .u64 0,
    .int .u64 (h.cnt : Int), .int .u64 h.byt, .int .u64 (h.fsq : Int), .int .i64 h.ft, .int .u64 (h.n : Int), .int .i64 h.lt, .int .i64 0, .map none, .int .i64 0, .slice none 0 0, .int .i64 0,
    .map (some h.r), .pointer (some ⟨h.tb, 0, none⟩), h.d0, .int .i64 h.d1, .int .i64 h.d2, .bool h.d3, .int .i64 (h.mp : Int), .int .i64 h.ck]

/-- the blocks that a store's later steps may turn -/
def Mut (ms : Nat) (h : Hd) (F : List Nat) (k : Nat) : Prop := k = ms ∨ k = h.r ∨ k = h.tb ∨ k ∈ F ∨ h.d0 = .pointer (some ⟨k, 0, none⟩)

/-- a message in memory, in blocks that nothing turns -/
def MsgAt (w : World) (N : Nat → Prop) (i : Item) : Prop :=
  ∃ A1 c1 A2 c2 A3 c3, Blk w i.blk 145 #[str i.rc.subj, .slice A1 i.rc.hdr.length c1, .slice A2 i.rc.dat.length c2, .slice A3 (i.rc.hdr ++ i.rc.dat).length c3, .int .u64 (i.seq : Int), .int .i64 i.rc.ts] ∧ ¬ N i.blk ∧
    RowAt w 1 A1 i.rc.hdr.length (i.rc.hdr.map byteV) ∧ RowAt w 1 A2 i.rc.dat.length (i.rc.dat.map byteV) ∧ RowAt w 1 A3 (i.rc.hdr ++ i.rc.dat).length ((i.rc.hdr ++ i.rc.dat).map byteV) ∧
    i.rc.hdr.length ≤ c1 ∧ i.rc.dat.length ≤ c2 ∧ (i.rc.hdr ++ i.rc.dat).length ≤ c3 ∧ (∀ k, blkOf A1 k ∨ blkOf A2 k ∨ blkOf A3 k → k < w.heap.size ∧ ¬ N k) ∧ (∀ k, blkOf A1 k ∨ blkOf A2 k ∨ blkOf A3 k → ∃ cs, Blk w k 5 cs)

theorem MsgAt.keep {w w' : World} {N N' G : Nat → Prop} {i : Item} (h : MsgAt w N i) (hk : Keep G w w') (hG : ∀ k, k < w.heap.size → G k → N k) (hN : ∀ k, k < w.heap.size → N' k → N k) : MsgAt w' N' i := by
  obtain ⟨A1, c1, A2, c2, A3, c3, hb, hn, r1, r2, r3, l1, l2, l3, hbk, hb5⟩ := h
  have hr : ∀ {A : Option Addr} {n : Nat} {xs : List Value}, RowAt w 1 A n xs → (∀ k, blkOf A k → k < w.heap.size ∧ ¬ N k) → RowAt w' 1 A n xs := fun hr hx => hr.keep hk (fun k hk' hlt hg => (hx k hk').2 (hG k hlt hg))
  exact ⟨A1, c1, A2, c2, A3, c3, hk.blk hb (fun hg => hn (hG _ hb.lt hg)), fun hx => hn (hN _ hb.lt hx), hr r1 (fun k hk => hbk k (.inl hk)), hr r2 (fun k hk => hbk k (.inr (.inl hk))), hr r3 (fun k hk => hbk k (.inr (.inr hk))), l1, l2, l3,
    fun k hk' => ⟨Nat.lt_of_lt_of_le (hbk k hk').1 hk.size, fun hx => (hbk k hk').2 (hN k (hbk k hk').1 hx)⟩, fun k hk' => by obtain ⟨cs, h5⟩ := hb5 k hk'; exact ⟨cs, hk.blk h5 (fun hg => (hbk k hk').2 (hG k (hbk k hk').1 hg))⟩⟩

/-- the numbers of a subject's messages -/
def seqs (its : List Item) (s : Bs) : List Nat := (its.filter fun i => i.rc.subj == s).map Item.seq

/-- a subject's state, in its leaf: count, first, last -/
def SubAt (w : World) (its : List Item) (e : Ent) : Prop :=
  ∃ (fs ls : Nat) (fn : Bool), (∃ i ∈ its, i.rc.subj = e.1) ∧ (seqs its e.1).getLast? = some ls ∧ (∀ k ∈ seqs its e.1, fs ≤ k) ∧ (fn = false → (seqs its e.1).head? = some fs) ∧ (fn = true → ∀ k ∈ seqs its e.1, fs < k) ∧
    w.cell? ⟨e.2, 0, none⟩ = some (.int .u64 ((seqs its e.1).length : Int)) ∧ w.cell? ⟨e.2, 1, none⟩ = some (.int .u64 (fs : Int)) ∧ w.cell? ⟨e.2, 2, none⟩ = some (.int .u64 (ls : Int)) ∧
    w.cell? ⟨e.2, 3, none⟩ = some (.bool fn) ∧ w.cell? ⟨e.2, 4, none⟩ = some (.bool false)

/-- the cells of the set's one node: numbers 0 to 63 -/
abbrev dC (B : Nat) : Array Value := #[.int .u64 0, .int .u64 (B : Int), .int .u64 0, .int .u64 0, .int .u64 0, .int .u64 0, .int .u64 0, .int .u64 0, .int .u64 0, .int .u64 0, .int .u64 0, .int .u64 0, .int .u64 0, .int .u64 0, .int .u64 0, .int .u64 0, .int .u64 0,
  .int .u64 0, .int .u64 0, .int .u64 0, .int .u64 0, .int .u64 0, .int .u64 0, .int .u64 0, .int .u64 0, .int .u64 0, .int .u64 0, .int .u64 0, .int .u64 0, .int .u64 0, .int .u64 0, .int .u64 0, .int .u64 0, .pointer none, .pointer none, .int .i64 1]

/-- the set of numbers taken out -/
def DAt (w : World) (d0 : Value) (X : Nat → Prop) : Prop :=
  (d0 = .pointer none ∧ ∀ k, ¬ X k) ∨ ∃ nb B, d0 = .pointer (some ⟨nb, 0, none⟩) ∧ Blk w nb 204 (dC B) ∧ B < 18446744073709551616 ∧ ∀ k, B.testBit k = true ↔ X k

/-- the store as a whole -/
structure StoreAt (w : World) (ms : Nat) (h : Hd) (its : List Item) (M : List Ent) (F : List Nat) : Prop where
  hd : Blk w ms 87 h.cells
  mode : h.mp = 0 ∨ h.disc = 0
  mpb : h.mp ≤ 1000 ∧ h.mm ≤ 1000
  disc : (h.disc = 0 ∧ h.mm = 0) ∨ (h.disc = 1 ∧ 0 < h.mm)
  mapA : MapAt w h.r (its.map fun i => (i.seq, i.blk))
  srt : (its.map Item.seq).Pairwise (· < ·)
  num : ∀ i ∈ its, 1 ≤ i.seq ∧ i.seq ≤ h.n
  few : h.n ≤ 30
  byt : 0 ≤ h.byt ∧ h.byt ≤ 20000 * (h.n : Int)
  cnt : h.cnt = its.length
  none0 : its = [] ↔ h.n = 0
  first : ∀ i, its.head? = some i → h.fsq = i.seq
  first0 : its = [] → h.fsq = 0
  ok : ∀ i ∈ its, i.rc.Ok
  msg : ∀ i ∈ its, MsgAt w (Mut ms h F) i
  tree : TreeAt w h.tb M.length M F
  uniq : (M.map Prod.fst).Nodup
  key : ∀ i ∈ its, ∃ b, (i.rc.subj, b) ∈ M
  sub : ∀ e ∈ M, SubAt w its e
  dm : DAt w h.d0 (fun k => h.fsq < k ∧ k ≤ h.n ∧ k ∉ its.map Item.seq)
  dn : h.mp = 0 → h.d0 = .pointer none
  dis1 : ms ∉ F ∧ h.r ∉ F
  dis2 : ms ≠ h.r ∧ ms ≠ h.tb ∧ h.r ≠ h.tb
  dis3 : ∀ k, h.d0 = .pointer (some ⟨k, 0, none⟩) → k ≠ ms ∧ k ≠ h.r ∧ k ≠ h.tb ∧ k ∉ F

section
variable {w : World} {ms : Nat} {h : Hd} {its : List Item} {M : List Ent} {F : List Nat}

theorem mem_seqs {its : List Item} {s : Bs} {k : Nat} : k ∈ seqs its s ↔ ∃ i ∈ its, i.rc.subj = s ∧ i.seq = k := by
  simp [seqs, List.mem_map, List.mem_filter, and_assoc]

theorem len_nodup_le : ∀ {l r : List Bs}, l.Nodup → (∀ x ∈ l, x ∈ r) → l.length ≤ r.length
  | [], _, _, _ => by simp
  | x :: l, r, hn, h => by
    have hx := h x (by simp)
    obtain ⟨a, b, rfl⟩ := List.append_of_mem hx
    have := len_nodup_le (l := l) (r := a ++ b) (List.nodup_cons.1 hn).2 (fun y hy => by
      have h1 := h y (List.mem_cons_of_mem _ hy)
      rcases List.mem_append.1 h1 with h2 | h2
      · exact List.mem_append.2 (.inl h2)
      · rcases List.mem_cons.1 h2 with rfl | h2
        · exact absurd hy (List.nodup_cons.1 hn).1
        · exact List.mem_append.2 (.inr h2))
    simp only [List.length_cons, List.length_append] at this ⊢
    omega

theorem len_sorted_le : ∀ {l : List Nat} {n : Nat}, l.Pairwise (· < ·) → (∀ x ∈ l, x < n) → l.length ≤ n
  | [], _, _, _ => by simp
  | x :: l, n, hp, h => by
    obtain ⟨h1, h2⟩ := List.pairwise_cons.1 hp
    have h0 := h x (by simp)
    have : (l.map (· - 1)).length ≤ n - 1 := by
      refine len_sorted_le ?_ ?_
      · rw [List.pairwise_map]
        exact h2.imp_of_mem (fun {a b} ha hb hab => by have := h1 a ha; omega)
      · intro y hy
        obtain ⟨z, hz, rfl⟩ := List.mem_map.1 hy
        have := h1 z hz
        have := h z (List.mem_cons_of_mem _ hz)
        omega
    simp only [List.length_map] at this
    simp only [List.length_cons]
    omega

theorem StoreAt.len (S : StoreAt w ms h its M F) : its.length ≤ 30 := by
  have := len_sorted_le (n := 31) S.srt (fun x hx => by obtain ⟨i, hi, rfl⟩ := List.mem_map.1 hx; have := (S.num i hi).2; have := S.few; omega)
  have h2 := len_sorted_le (l := (its.map Item.seq).map (· - 1)) (n := 30) (by
      rw [List.pairwise_map]
      exact S.srt.imp_of_mem (fun {a b} ha hb hab => by
        obtain ⟨i, hi, rfl⟩ := List.mem_map.1 ha
        have := (S.num i hi).1
        omega)) (fun x hx => by
      obtain ⟨y, hy, rfl⟩ := List.mem_map.1 hx
      obtain ⟨i, hi, rfl⟩ := List.mem_map.1 hy
      have := (S.num i hi).2; have := (S.num i hi).1; have := S.few; omega)
  simpa using h2

theorem StoreAt.subj (S : StoreAt w ms h its M F) {e : Ent} (he : e ∈ M) : ∃ i ∈ its, i.rc.subj = e.1 := by
  obtain ⟨_, _, _, h1, _⟩ := S.sub e he
  exact h1
theorem StoreAt.lenM (S : StoreAt w ms h its M F) : M.length ≤ 30 := by
  have h1 := len_nodup_le (l := M.map Prod.fst) (r := its.map fun i => i.rc.subj) S.uniq (fun x hx => by
    obtain ⟨e, he, rfl⟩ := List.mem_map.1 hx
    obtain ⟨i, hi, e1⟩ := S.subj he
    exact List.mem_map.2 ⟨i, hi, e1⟩)
  have := S.len
  simp only [List.length_map] at h1
  omega
theorem StoreAt.short (S : StoreAt w ms h its M F) : Short M := by
  intro e he
  obtain ⟨i, hi, e1⟩ := S.subj he
  rw [← e1]
  have := (S.ok i hi).s1
  omega
theorem StoreAt.no127 (S : StoreAt w ms h its M F) : No127 M := by
  intro e he
  obtain ⟨i, hi, e1⟩ := S.subj he
  rw [← e1]
  exact (S.ok i hi).s2
theorem StoreAt.nodup (S : StoreAt w ms h its M F) : ((its.map fun i => (i.seq, i.blk)).map Prod.fst).Nodup := by
  have : (its.map fun i => (i.seq, i.blk)).map Prod.fst = its.map Item.seq := by simp [Function.comp_def]
  rw [this]
  exact S.srt.imp (fun h => Nat.ne_of_lt h)

/-- the blocks of a subject's states -/
theorem TreeAt.mem {w : World} {tb : Nat} {sz : Int} {M : List Ent} {F : List Nat} (h : TreeAt w tb sz M F) : ∀ e ∈ M, e.2 ∈ F ∧ ∃ C, Blk w e.2 267 C ∧ C.size = 6 := by
  obtain ⟨root, _, hr, _⟩ := h
  intro e he
  rcases hr with ⟨_, rfl, _⟩ | hr
  · cases he
  · exact hr.mem_blk e he
theorem TreeAt.keep {w w' : World} {tb : Nat} {sz : Int} {M : List Ent} {F : List Nat} {G : Nat → Prop} (h : TreeAt w tb sz M F) (hk : Keep G w w') (h1 : ¬ G tb) (h2 : ∀ k ∈ F, ¬ G k) : TreeAt w' tb sz M F := by
  obtain ⟨root, hb, hr, h3, h4⟩ := h
  refine ⟨root, hk.blk hb h1, ?_, h3, h4⟩
  rcases hr with hr | hr
  · exact .inl hr
  · exact .inr (hr.keep hk (fun b hb _ => h2 b hb))
theorem SubAt.keep {w w' : World} {its : List Item} {e : Ent} {G : Nat → Prop} (h : SubAt w its e) (hk : Keep G w w') (h1 : ¬ G e.2) : SubAt w' its e := by
  obtain ⟨fs, ls, fn, a1, a2, a3, a4, a5, c0, c1, c2, c3, c4⟩ := h
  exact ⟨fs, ls, fn, a1, a2, a3, a4, a5, hk.cellS c0 h1, hk.cellS c1 h1, hk.cellS c2 h1, hk.cellS c3 h1, hk.cellS c4 h1⟩
end

/-- no subject has more messages than the limit of a subject says; the set of the numbers that were taken out knows how many it has -/
def Lim (h : Hd) (its : List Item) : Prop := 0 < h.mp → (∀ s, (seqs its s).length ≤ h.mp) ∧ h.d3 = false ∧ ∃ l : List Nat, l.Nodup ∧ (its ≠ [] → ∀ x, x ∈ l ↔ (h.fsq < x ∧ x ≤ h.n ∧ x ∉ its.map Item.seq)) ∧ (its = [] → l = []) ∧ h.d1 = (l.length : Int)

/-- outside the store nothing turns it -/
theorem StoreAt.keep {w w' : World} {ms : Nat} {h : Hd} {its : List Item} {M : List Ent} {F : List Nat} {G : Nat → Prop} (S : StoreAt w ms h its M F) (hk : Keep G w w') (hG : ∀ k, k < w.heap.size → G k → False) : StoreAt w' ms h its M F := by
  have hk : Keep NoB w w' := hk.mono hG
  have e1 := hk.blk S.hd (fun h => h)
  have e2 := S.mapA.keep hk (fun h => h)
  have e3 : ∀ i ∈ its, MsgAt w' (Mut ms h F) i := fun i hi => (S.msg i hi).keep hk (fun k _ h => h.elim) (fun k _ h => h)
  have e4 := S.tree.keep hk (fun h => h) (fun k _ h => h)
  have e5 : ∀ e ∈ M, SubAt w' its e := fun e he => (S.sub e he).keep hk (fun h => h)
  refine { S with hd := e1, mapA := e2, msg := e3, tree := e4, sub := e5, dm := ?_ }
  rcases S.dm with hd | ⟨nb, B, h1, h2, h3⟩
  · exact .inl hd
  · exact .inr ⟨nb, B, h1, hk.blk h2 (fun h => h), h3⟩

/-- only cells that no law speaks of are turned -/
structure Hd.Same (h h' : Hd) : Prop where
  mm : h'.mm = h.mm
  mp : h'.mp = h.mp
  disc : h'.disc = h.disc
  cnt : h'.cnt = h.cnt
  fsq : h'.fsq = h.fsq
  n : h'.n = h.n
  r : h'.r = h.r
  tb : h'.tb = h.tb
  d0 : h'.d0 = h.d0
  byt : h'.byt = h.byt

theorem StoreAt.turn {w w' : World} {ms : Nat} {h h' : Hd} {its : List Item} {M : List Ent} {F : List Nat} (S : StoreAt w ms h its M F) (hk : Keep (fun k => k = ms) w w') (hb : Blk w' ms 87 h'.cells) (hs : h.Same h') :
    StoreAt w' ms h' its M F := by
  obtain ⟨a1, a2, a3, a4, a5, a6, a7, a8, a9, a10⟩ := hs
  obtain ⟨d1, d2, d3⟩ := S.dis2
  have hN : ∀ k, Mut ms h' F k → Mut ms h F k := by
    intro k hk
    simpa only [Mut, a7, a8, a9] using hk
  have e1 : ∀ e ∈ M, ¬ e.2 = ms := fun e he hx => S.dis1.1 (hx ▸ (S.tree.mem e he).1)
  constructor
  · exact hb
  · rw [a2, a3]; exact S.mode
  · rw [a1, a2]; exact S.mpb
  · rw [a1, a3]; exact S.disc
  · rw [a7]; exact S.mapA.keep hk (fun hx => d1 hx.symm)
  · exact S.srt
  · rw [a6]; exact S.num
  · rw [a6]; exact S.few
  · rw [a6, a10]; exact S.byt
  · rw [a4]; exact S.cnt
  · rw [a6]; exact S.none0
  · rw [a5]; exact S.first
  · rw [a5]; exact S.first0
  · exact S.ok
  · exact fun i hi => (S.msg i hi).keep hk (fun k _ hx => .inl hx) (fun k _ hx => hN k hx)
  · rw [a8]; exact S.tree.keep hk (fun hx => d2 hx.symm) (fun k hk' hx => S.dis1.1 (hx ▸ hk'))
  · exact S.uniq
  · exact S.key
  · exact fun e he => (S.sub e he).keep hk (e1 e he)
  · rw [a5, a6, a9]
    rcases S.dm with hd | ⟨nb, B, h1, h2, h3⟩
    · exact .inl hd
    · exact .inr ⟨nb, B, h1, hk.blk h2 (fun hx => (S.dis3 nb h1).1 hx), h3⟩
  · rw [a2, a9]; exact S.dn
  · rw [a7]; exact S.dis1
  · rw [a7, a8]; exact S.dis2
  · rw [a7, a8, a9]; exact S.dis3

end Go.Proofs.YtmblkpjnafgplaaGreatDoor

namespace Go.Proofs.YtmblkpjnafgplaaGreatDoor
open Go Go.RowKit
set_option maxRecDepth 100000
set_option linter.unusedVariables false
set_option linter.unusedSimpArgs false

theorem TNode.sub {w : World} {v : Value} {M : List Ent} {F : List Nat} (h : TNode w v M F) : (M.map Prod.snd).Sublist F := by
  induction h with
  | leaf b s C hb hz hs => simp
  | inner k b p ks C hb hC hk hM hd h0 ih =>
    refine List.Sublist.cons b ?_
    clear hb hC hk hM hd h0
    induction ks with
    | nil => simp
    | cons c t iht =>
      simp only [List.flatMap_cons, List.map_append, List.map_map]
      refine List.Sublist.append ?_ (iht (fun d hd => ih d (List.mem_cons_of_mem _ hd)))
      have := ih c (by simp)
      have e : List.map (Prod.snd ∘ fun e : Ent => (p ++ e.1, e.2)) c.M = c.M.map Prod.snd := by simp [Function.comp_def]
      rw [e]
      exact this

theorem TreeAt.nodup2 {w : World} {tb : Nat} {sz : Int} {M : List Ent} {F : List Nat} (h : TreeAt w tb sz M F) : (M.map Prod.snd).Nodup := by
  obtain ⟨root, _, hr, hF, _⟩ := h
  rcases hr with ⟨_, rfl, _⟩ | hr
  · simp
  · exact hr.sub.nodup hF

theorem Keep.none_trans' {F : Nat → Prop} {a b c : World} (h : Keep NoB a b) (k : Keep F b c) : Keep F a c := (h.mono (fun _ _ h => h.elim)).trans k (fun _ _ h => h)

theorem inj_of_nodup {α β : Type} {f : α → β} {l : List α} (h : (l.map f).Nodup) {a b : α} (ha : a ∈ l) (hb : b ∈ l) (e : f a = f b) : a = b := by
  obtain ⟨i, hi, rfl⟩ := List.mem_iff_getElem.1 ha
  obtain ⟨j, hj, rfl⟩ := List.mem_iff_getElem.1 hb
  have hd := List.pairwise_iff_getElem.1 h
  rcases Nat.lt_trichotomy i j with h | h | h
  · exact absurd (by rw [List.getElem_map, List.getElem_map]; exact e) (hd i j (by simpa using hi) (by simpa using hj) h)
  · subst h; rfl
  · exact absurd (by rw [List.getElem_map, List.getElem_map]; exact e.symm) (hd j i (by simpa using hj) (by simpa using hi) h)

/-- the head of the store behind a message -/
structure Hd.Next (h h2 : Hd) : Prop where
  l0 : h2.l0 = h.l0
  l4 : h2.l4 = h.l4
  mm : h2.mm = h.mm
  mp : h2.mp = h.mp
  disc : h2.disc = h.disc
  cnt : h2.cnt = h.cnt + 1
  n : h2.n = h.n + 1
  fsq : h2.fsq = if h.cnt = 0 then h.n + 1 else h.fsq
  r : h2.r = h.r
  tb : h2.tb = h.tb
  d0 : h2.d0 = h.d0
  byt : 0 ≤ h2.byt ∧ h2.byt ≤ 20000 * ((h.n : Int) + 1)
  d1 : h2.d1 = h.d1
  d3 : h2.d3 = h.d3

/-- the message lies in its map, the head is turned; the subjects are not yet -/
structure Mid (w wx : World) (ms : Nat) (h : Hd) (its : List Item) (M : List Ent) (F : List Nat) (rc : Rec) (h2 : Hd) (b : Nat) : Prop where
  hd : Blk wx ms 87 h2.cells
  map : MapAt wx h.r ((its.map fun i => (i.seq, i.blk)) ++ [(h.n + 1, b)])
  keep : Keep (fun k => k = ms ∨ k = h.r) w wx
  msg : MsgAt wx (Mut ms h F) ⟨h.n + 1, b, rc⟩
  next : h.Next h2

theorem seqs_app (its : List Item) (i : Item) (s : Bs) : seqs (its ++ [i]) s = seqs its s ++ (if i.rc.subj = s then [i.seq] else []) := by
  unfold seqs
  rw [List.filter_append, List.map_append]
  congr 1
  by_cases h : i.rc.subj = s <;> simp [h]

/-- what is alike, whether the subject was there or not -/
theorem Mid.common {w wx w3 : World} {ms : Nat} {h : Hd} {its : List Item} {M M' : List Ent} {F F' : List Nat} {rc : Rec} {h2 : Hd} {b : Nat} {G : Nat → Prop} (m : Mid w wx ms h its M F rc h2 b) (S : StoreAt w ms h its M F) (hok : rc.Ok) (hn : h.n < 30)
    (hk : Keep G wx w3) (hG : ∀ k, k < wx.heap.size → G k → k ∈ F ∨ k = h.tb) (hF' : ∀ k ∈ F', k ∈ F ∨ wx.heap.size ≤ k) (ht : TreeAt w3 h.tb M'.length M' F') (hu : (M'.map Prod.fst).Nodup)
    (hkey : ∀ i ∈ its ++ [⟨h.n + 1, b, rc⟩], ∃ x, (i.rc.subj, x) ∈ M') (hsub : ∀ e ∈ M', SubAt w3 (its ++ [⟨h.n + 1, b, rc⟩]) e) : StoreAt w3 ms h2 (its ++ [⟨h.n + 1, b, rc⟩]) M' F' := by
  obtain ⟨q1, q2, a1, a2, a3, a4, a6, a5, a7, a8, a9, a10, _, _⟩ := m.next
  obtain ⟨d1, d2, d3⟩ := S.dis2
  obtain ⟨d4, d5⟩ := S.dis1
  have hlt := fun (k : Nat) (hk : k < w.heap.size) => Nat.lt_of_lt_of_le hk m.keep.size
  have hms := m.hd.lt
  have hr := m.map.lt
  have nG1 : ¬ G ms := fun hx => (hG ms hms hx).elim d4 (fun e => d2 e)
  have nG2 : ¬ G h.r := fun hx => (hG h.r hr hx).elim d5 (fun e => d3 e)
  have hMut : ∀ k, k < wx.heap.size → Mut ms h2 F' k → Mut ms h F k := by
    intro k hk hM
    unfold Mut at hM ⊢
    rw [a7, a8, a9] at hM
    rcases hM with h | h | h | h | h
    · exact .inl h
    · exact .inr (.inl h)
    · exact .inr (.inr (.inl h))
    · rcases hF' k h with h | h
      · exact .inr (.inr (.inr (.inl h)))
      · omega
    · exact .inr (.inr (.inr (.inr h)))
  have hGM : ∀ k, k < wx.heap.size → G k → Mut ms h F k := fun k hk hx => (hG k hk hx).elim (fun h => .inr (.inr (.inr (.inl h)))) (fun h => .inr (.inr (.inl h)))
  have hKM : ∀ k, k < w.heap.size → (k = ms ∨ k = h.r) → Mut ms h F k := fun k _ hx => hx.elim .inl (fun h => .inr (.inl h))
  have hgone : ∀ nb, h.d0 = .pointer (some ⟨nb, 0, none⟩) → nb < w.heap.size → ¬ G nb ∧ ¬ (nb = ms ∨ nb = h.r) := by
    intro nb hnb hl
    obtain ⟨x1, x2, x3, x4⟩ := S.dis3 nb hnb
    exact ⟨fun hx => (hG nb (hlt nb hl) hx).elim x4 x3, fun hx => hx.elim x1 x2⟩
  have hcnt : h.cnt = 0 ↔ its = [] := by rw [S.cnt]; exact List.length_eq_zero_iff
  constructor
  · exact hk.blk m.hd nG1
  · rw [a2, a3]; exact S.mode
  · rw [a1, a2]; exact S.mpb
  · rw [a1, a3]; exact S.disc
  · rw [a7]
    have := m.map.keep hk nG2
    simpa using this
  · rw [List.map_append, List.pairwise_append]
    refine ⟨S.srt, by simp, ?_⟩
    intro x hx y hy
    obtain ⟨i, hi, rfl⟩ := List.mem_map.1 hx
    simp only [List.map_cons, List.map_nil, List.mem_singleton] at hy
    subst hy
    have := (S.num i hi).2
    omega
  · intro i hi
    rw [a6]
    rcases List.mem_append.1 hi with hi | hi
    · have := S.num i hi; omega
    · simp only [List.mem_singleton] at hi; subst hi; simp
  · rw [a6]; omega
  · rw [a6]; omega
  · rw [a4, S.cnt]; simp
  · rw [a6]; simp
  · intro i hi
    rw [a5]
    cases its with
    | nil =>
      simp only [List.nil_append, List.head?_cons, Option.some.injEq] at hi
      subst hi
      rw [if_pos (hcnt.2 rfl)]
    | cons c t =>
      rw [if_neg (fun hx => by have := hcnt.1 hx; cases this)]
      exact S.first i (by simpa using hi)
  · intro hx; simp at hx
  · intro i hi
    rcases List.mem_append.1 hi with hi | hi
    · exact S.ok i hi
    · simp only [List.mem_singleton] at hi; subst hi; exact hok
  · intro i hi
    rcases List.mem_append.1 hi with hi | hi
    · exact ((S.msg i hi).keep m.keep hKM (fun k _ hx => hx)).keep hk hGM hMut
    · simp only [List.mem_singleton] at hi; subst hi
      exact m.msg.keep hk hGM hMut
  · rw [a8]; exact ht
  · exact hu
  · exact hkey
  · exact hsub
  · rw [a5, a6, a9]
    have hX : ∀ k, ((if h.cnt = 0 then h.n + 1 else h.fsq) < k ∧ k ≤ h.n + 1 ∧ k ∉ (its ++ [(⟨h.n + 1, b, rc⟩ : Item)]).map Item.seq) ↔ (h.fsq < k ∧ k ≤ h.n ∧ k ∉ its.map Item.seq) := by
      intro k
      rw [List.map_append]
      simp only [List.map_cons, List.map_nil, List.mem_append, List.mem_singleton, not_or]
      by_cases hc : h.cnt = 0
      · have h0 := hcnt.1 hc
        have hn0 := S.none0.1 h0
        rw [if_pos hc]
        constructor
        · rintro ⟨x1, x2, x3⟩; omega
        · rintro ⟨x1, x2, x3⟩; omega
      · rw [if_neg hc]
        constructor
        · rintro ⟨x1, x2, x3, x4⟩; exact ⟨x1, by omega, x3⟩
        · rintro ⟨x1, x2, x3⟩; exact ⟨x1, by omega, x3, by omega⟩
    rcases S.dm with ⟨e0, hx⟩ | ⟨nb, B, h1, h2', h3, h4⟩
    · exact .inl ⟨e0, fun k hk' => hx k ((hX k).1 hk')⟩
    · obtain ⟨g1, g2⟩ := hgone nb h1 h2'.lt
      exact .inr ⟨nb, B, h1, hk.blk (m.keep.blk h2' g2) g1, h3, fun k => (h4 k).trans (hX k).symm⟩
  · rw [a2, a9]; exact S.dn
  · rw [a7]
    exact ⟨fun hx => (hF' _ hx).elim d4 (fun h => by omega), fun hx => (hF' _ hx).elim d5 (fun h => by omega)⟩
  · rw [a7, a8]; exact ⟨d1, d2, d3⟩
  · rw [a7, a8, a9]
    intro k hk'
    obtain ⟨x1, x2, x3, x4⟩ := S.dis3 k hk'
    refine ⟨x1, x2, x3, fun hx => (hF' k hx).elim x4 (fun hx => ?_)⟩
    rcases S.dm with ⟨e0, _⟩ | ⟨nb, B, h1, h2', _⟩
    · rw [e0] at hk'; cases hk'
    · rw [h1] at hk'
      injection hk' with hk'; injection hk' with hk'; injection hk' with hk'
      have := hlt nb h2'.lt
      omega

/-- a leaf's cells of a subject turned: the tree stands -/
theorem TreeAt.leafSet {w w' : World} {tb : Nat} {sz : Int} {M : List Ent} {F : List Nat} {b : Nat} (h : TreeAt w tb sz M F) (hk : Keep (fun k => k = b) w w') {C C' : Array Value} (hb : Blk w b 267 C) (hb' : Blk w' b 267 C') (hz : C'.size = C.size) (h5 : C'[5]? = C[5]?) (hbF : b ∈ F) :
    TreeAt w' tb sz M F := by
  obtain ⟨root, hr, hn, hF, ht⟩ := h
  refine ⟨root, hk.blk hr (fun e => ht (e ▸ hbF)), ?_, hF, ht⟩
  rcases hn with hn | hn
  · exact .inl hn
  · refine .inr (hn.like fun k hkF => ?_)
    by_cases e : k = b
    · subst e; exact .inr ⟨C, C', hb, hb', hz, h5⟩
    · exact .inl (hk.block k (hn.lt k hkF) e)

/-- a subject that was there: its state is turned -/
theorem Mid.found {w wx w3 : World} {ms : Nat} {h : Hd} {its : List Item} {M : List Ent} {F : List Nat} {rc : Rec} {h2 : Hd} {b b0 : Nat} (m : Mid w wx ms h its M F rc h2 b) (S : StoreAt w ms h its M F) (hok : rc.Ok) (hn : h.n < 30)
    (hM : (rc.subj, b0) ∈ M) (hk : Keep (fun k => k = b0) wx w3) {C C' : Array Value} (hb : Blk wx b0 267 C) (hb' : Blk w3 b0 267 C') (hz : C'.size = C.size)
    (e0 : C'[0]? = some (.int .u64 (((seqs its rc.subj).length + 1 : Nat) : Int))) (e1 : C'[1]? = C[1]?) (e2 : C'[2]? = some (.int .u64 ((h.n + 1 : Nat) : Int))) (e3 : C'[3]? = C[3]?) (e4 : C'[4]? = some (.bool false)) (e5 : C'[5]? = C[5]?) :
    StoreAt w3 ms h2 (its ++ [⟨h.n + 1, b, rc⟩]) M F := by
  have hbF := (S.tree.mem _ hM).1
  have hkF : ∀ k, (k = ms ∨ k = h.r) → k ∉ F := fun k hx hF => hx.elim (fun e => S.dis1.1 (e ▸ hF)) (fun e => S.dis1.2 (e ▸ hF))
  have hkt : ¬ (h.tb = ms ∨ h.tb = h.r) := fun hx => hx.elim (fun e => S.dis2.2.1 e.symm) (fun e => S.dis2.2.2 e.symm)
  have htx : TreeAt wx h.tb M.length M F := S.tree.keep m.keep hkt (fun k hk hx => hkF k hx hk)
  refine m.common S hok hn hk (fun k _ e => .inl (e ▸ hbF)) (fun k hk => .inl hk) (htx.leafSet hk hb hb' hz e5 hbF) S.uniq ?_ ?_
  · intro i hi
    rcases List.mem_append.1 hi with hi | hi
    · exact S.key i hi
    · simp only [List.mem_singleton] at hi; subst hi; exact ⟨b0, hM⟩
  · intro e he
    have hs := (S.sub e he).keep m.keep (fun hx => hkF e.2 hx (S.tree.mem e he).1)
    by_cases hee : e.1 = rc.subj
    · obtain rfl : e = (rc.subj, b0) := inj_of_nodup S.uniq he hM hee
      obtain ⟨fs, ls, fn, ⟨i, hi, hie⟩, a2, a3, a4, a5, c0, c1, c2, c3, c4⟩ := hs
      simp only at a2 a3 a4 a5 c0 c1 c2 c3 c4 hie
      have hne : seqs its rc.subj ≠ [] := fun hx => by have := mem_seqs.2 ⟨i, hi, hie, rfl⟩; rw [hx] at this; cases this
      have hbnd : ∀ k ∈ seqs its rc.subj, k ≤ h.n := fun k hk => by
        obtain ⟨j, hj, _, rfl⟩ := mem_seqs.1 hk
        exact (S.num j hj).2
      have hfn1 : fs ≤ h.n := by
        have hm := mem_seqs.2 ⟨i, hi, hie, rfl⟩
        exact Nat.le_trans (a3 _ hm) (hbnd _ hm)
      rw [hb.cell] at c1 c3
      refine ⟨fs, h.n + 1, fn, ⟨i, List.mem_append.2 (.inl hi), hie⟩, ?_, ?_, ?_, ?_, ?_, ?_, ?_, ?_, ?_⟩
      · rw [seqs_app, if_pos rfl]; simp
      · intro k hk
        rw [seqs_app, if_pos rfl] at hk
        rcases List.mem_append.1 hk with hk | hk
        · exact a3 k hk
        · simp only [List.mem_singleton] at hk; omega
      · intro hf
        rw [seqs_app, List.head?_append, a4 hf]; rfl
      · intro hf k hk
        rw [seqs_app, if_pos rfl] at hk
        rcases List.mem_append.1 hk with hk | hk
        · exact a5 hf k hk
        · simp only [List.mem_singleton] at hk; omega
      · show w3.cell? ⟨b0, 0, none⟩ = _
        rw [hb'.cell, e0, seqs_app, if_pos rfl]; simp
      · show w3.cell? ⟨b0, 1, none⟩ = _
        rw [hb'.cell, e1]; exact c1
      · show w3.cell? ⟨b0, 2, none⟩ = _
        rw [hb'.cell, e2]
      · show w3.cell? ⟨b0, 3, none⟩ = _
        rw [hb'.cell, e3]; exact c3
      · show w3.cell? ⟨b0, 4, none⟩ = _
        rw [hb'.cell, e4]
    · have hne : ¬ e.2 = b0 := fun hx => hee (by rw [inj_of_nodup (f := Prod.snd) S.tree.nodup2 he hM hx])
      have hs := hs.keep hk hne
      unfold SubAt at hs ⊢
      rw [seqs_app, if_neg (fun hx => hee hx.symm), List.append_nil]
      obtain ⟨fs, ls, fn, ⟨i, hi, hie⟩, hx⟩ := hs
      exact ⟨fs, ls, fn, ⟨i, List.mem_append.2 (.inl hi), hie⟩, hx⟩

/-- a subject that is new: put into the tree -/
theorem Mid.fresh {w wx wy w3 : World} {ms : Nat} {h : Hd} {its : List Item} {M : List Ent} {F : List Nat} {rc : Rec} {h2 : Hd} {b : Nat} (m : Mid w wx ms h its M F rc h2 b) (S : StoreAt w ms h its M F) (hok : rc.Ok) (hn : h.n < 30)
    (hM : ∀ x, (rc.subj, x) ∉ M) (hky : Keep NoB wx wy) (hi : InsT h.tb M.length M F rc.subj [.int .u64 1, .int .u64 ((h.n + 1 : Nat) : Int), .int .u64 ((h.n + 1 : Nat) : Int), .bool false, .bool false] wy w3) :
    ∃ M' F', StoreAt w3 ms h2 (its ++ [⟨h.n + 1, b, rc⟩]) M' F' ∧ (∀ k ∈ F', k ∈ F ∨ wx.heap.size ≤ k) := by
  obtain ⟨M', F', bl, sf, ht, hp, hF', hbl, hblk⟩ := hi.ex
  have hz := hky.size
  have hkF : ∀ k, (k = ms ∨ k = h.r) → k ∉ F := fun k hx hF => hx.elim (fun e => S.dis1.1 (e ▸ hF)) (fun e => S.dis1.2 (e ▸ hF))
  have hF2 : ∀ k ∈ F', k ∈ F ∨ wx.heap.size ≤ k := fun k hk => (hF' k hk).imp id (fun h => Nat.le_trans hz h)
  have hsj : seqs its rc.subj = [] := by
    cases hq : seqs its rc.subj with
    | nil => rfl
    | cons k t =>
      obtain ⟨i, hi, hie, _⟩ := mem_seqs.1 (show k ∈ seqs its rc.subj by rw [hq]; simp)
      obtain ⟨x, hx⟩ := S.key i hi
      rw [hie] at hx
      exact absurd hx (hM x)
  refine ⟨M', F', m.common S hok hn (hky.none_trans' hi.kept) (fun k _ e => e) hF2 ?_ ?_ ?_ ?_, hF2⟩
  · have hl : (M'.length : Int) = (M.length : Int) + 1 := by have := hp.length_eq; simp at this; omega
    rw [hl]; exact ht
  · refine ((hp.map Prod.fst).nodup_iff).2 ?_
    simp only [List.map_cons, List.nodup_cons]
    exact ⟨fun hx => by obtain ⟨e, he, hee⟩ := List.mem_map.1 hx; exact hM e.2 (by rw [← hee]; exact he), S.uniq⟩
  · intro i hi
    rcases List.mem_append.1 hi with hi | hi
    · obtain ⟨x, hx⟩ := S.key i hi
      exact ⟨x, hp.symm.subset (List.mem_cons_of_mem _ hx)⟩
    · simp only [List.mem_singleton] at hi; subst hi; exact ⟨bl, hp.symm.subset List.mem_cons_self⟩
  · intro e he
    rcases List.mem_cons.1 (hp.subset he) with rfl | he
    · refine ⟨h.n + 1, h.n + 1, false, ⟨⟨h.n + 1, b, rc⟩, by simp, rfl⟩, ?_, ?_, ?_, ?_, ?_, ?_, ?_, ?_, ?_⟩
      · simp only [seqs_app, hsj]; simp
      · simp only [seqs_app, hsj]; simp
      · simp only [seqs_app, hsj]; simp
      · intro hf; cases hf
      · simp only [seqs_app, hsj]
        show w3.cell? ⟨bl, 0, none⟩ = _
        rw [hblk.cell]; simp
      · show w3.cell? ⟨bl, 1, none⟩ = _
        rw [hblk.cell]; rfl
      · show w3.cell? ⟨bl, 2, none⟩ = _
        rw [hblk.cell]; rfl
      · show w3.cell? ⟨bl, 3, none⟩ = _
        rw [hblk.cell]; rfl
      · show w3.cell? ⟨bl, 4, none⟩ = _
        rw [hblk.cell]; rfl
    · have hs := ((S.sub e he).keep m.keep (fun hx => hkF e.2 hx (S.tree.mem e he).1)).keep hky (fun h => h)
      have hne : rc.subj ≠ e.1 := fun hx => hM e.2 (by rw [hx]; exact he)
      have ho := hi.old e he
      unfold SubAt at hs ⊢
      rw [seqs_app, if_neg hne, List.append_nil]
      obtain ⟨fs, ls, fn, ⟨i, hi', hie⟩, a2, a3, a4, a5, c0, c1, c2, c3, c4⟩ := hs
      exact ⟨fs, ls, fn, ⟨i, List.mem_append.2 (.inl hi'), hie⟩, a2, a3, a4, a5, (ho 0 (by decide)).trans c0, (ho 1 (by decide)).trans c1, (ho 2 (by decide)).trans c2, (ho 3 (by decide)).trans c3, (ho 4 (by decide)).trans c4⟩

/-- numbers and messages alone -/
def pairs (its : List Item) : List (Nat × Rec) := its.map fun i => (i.seq, i.rc)

/-- a message put behind others; where its subject has more than its limit says, that subject's first goes -/
def addRec (mp n : Nat) (l : List (Nat × Rec)) (rc : Rec) : List (Nat × Rec) :=
  if 0 < mp ∧ mp < ((l ++ [(n + 1, rc)]).filter fun x => x.2.subj == rc.subj).length then (l ++ [(n + 1, rc)]).eraseP fun x => x.2.subj == rc.subj else l ++ [(n + 1, rc)]

theorem len_pairs (its : List Item) (s : Bs) : ((pairs its).filter fun x => x.2.subj == s).length = (seqs its s).length := by
  unfold pairs seqs
  rw [List.filter_map, List.length_map, List.length_map]
  rfl

/-- what stays alike from step to step -/
structure Hd.Kin (h h' : Hd) : Prop where
  l0 : h'.l0 = h.l0
  l4 : h'.l4 = h.l4
  mm : h'.mm = h.mm
  mp : h'.mp = h.mp
  disc : h'.disc = h.disc

/-- what a message that was taken leaves behind -/
structure Stored (w w' : World) (ms : Nat) (h : Hd) (its : List Item) (M : List Ent) (F : List Nat) (rc : Rec) : Prop where
  ex : ∃ h' its' M' F', StoreAt w' ms h' its' M' F' ∧ h.Kin h' ∧ h'.n = h.n + 1 ∧ pairs its' = addRec h.mp h.n (pairs its) rc ∧ Lim h' its' ∧ (∀ k, Mut ms h' F' k → Mut ms h F k ∨ w.heap.size ≤ k)
  kept : Keep (Mut ms h F) w w'

theorem Hd.Next.kin {h h2 : Hd} (n : h.Next h2) : h.Kin h2 := ⟨n.l0, n.l4, n.mm, n.mp, n.disc⟩

theorem Stored.of_within {w w3 : World} {ms : Nat} {h h2 : Hd} {its : List Item} {M M' : List Ent} {F F' : List Nat} {rc : Rec} {b : Nat} (S : StoreAt w3 ms h2 (its ++ [⟨h.n + 1, b, rc⟩]) M' F') (hn : h.Next h2) (hl : Lim h its)
    (hw : h.mp = 0 ∨ (seqs its rc.subj).length + 1 ≤ h.mp) (hF : ∀ k ∈ F', k ∈ F ∨ w.heap.size ≤ k) (hk : Keep (Mut ms h F) w w3) : Stored w w3 ms h its M F rc := by
  refine ⟨⟨h2, _, M', F', S, hn.kin, hn.n, ?_, ?_, ?_⟩, hk⟩
  · have e : pairs (its ++ [⟨h.n + 1, b, rc⟩]) = pairs its ++ [(h.n + 1, rc)] := by simp [pairs]
    have hlen := len_pairs (its ++ [⟨h.n + 1, b, rc⟩]) rc.subj
    rw [seqs_app, if_pos rfl, List.length_append, e] at hlen
    rw [e, addRec, hlen, if_neg]
    simp only [List.length_cons, List.length_nil]
    omega
  · intro h0
    rw [hn.mp] at h0
    obtain ⟨q1, q2, l, q5, q3, q4, q6⟩ := hl h0
    refine ⟨fun s => ?_, by rw [hn.d3]; exact q2, l, q5, fun _ x => ?_, fun e => by simp at e, by rw [hn.d1]; exact q6⟩
    · rw [hn.mp, seqs_app, List.length_append]
      have := q1 s
      by_cases hs : rc.subj = s
      · subst hs; rw [if_pos rfl]; simp only [List.length_cons, List.length_nil]; omega
      · rw [if_neg hs]; simpa using this
    · have hc := S.cnt
      rw [hn.cnt, List.length_append] at hc
      simp only [List.length_cons, List.length_nil] at hc
      rw [hn.n, hn.fsq, List.map_append]
      by_cases hi : its = []
      · subst hi
        rw [q4 rfl]
        simp only [List.length_nil] at hc
        rw [if_pos (by omega)]
        constructor
        · intro h; cases h
        · rintro ⟨h1, h2, _⟩; omega
      · have h2 := List.length_pos_iff.2 hi
        rw [if_neg (by omega), q3 hi x]
        simp only [List.mem_append, List.map_cons, List.map_nil, List.mem_singleton, not_or]
        constructor
        · rintro ⟨h1, h2, h3⟩; exact ⟨h1, by omega, h3, by omega⟩
        · rintro ⟨h1, h2, h3, h4⟩; exact ⟨h1, by omega, h3⟩
  · intro k hk'
    unfold Mut at hk' ⊢
    rw [hn.r, hn.tb, hn.d0] at hk'
    rcases hk' with h | h | h | h | h
    · exact .inl (.inl h)
    · exact .inl (.inr (.inl h))
    · exact .inl (.inr (.inr (.inl h)))
    · exact (hF k h).imp (fun h => .inr (.inr (.inr (.inl h)))) id
    · exact .inl (.inr (.inr (.inr (.inr h))))

theorem Mid.keepM {w wx : World} {ms : Nat} {h : Hd} {its : List Item} {M : List Ent} {F : List Nat} {rc : Rec} {h2 : Hd} {b : Nat} (m : Mid w wx ms h its M F rc h2 b) : Keep (Mut ms h F) w wx :=
  m.keep.mono (fun k _ hx => hx.elim .inl (fun h => .inr (.inl h)))

end Go.Proofs.YtmblkpjnafgplaaGreatDoor
