/- removeMsgNoCB: a subject's first message is taken out. removeMsg, enforcePerSubjectLimit. What a message leaves where its subject was full: plain laws. storeRawMsg: its parts, one declaration each. PRINTED by wip/gen_sr.py. -/
import Derived.Test.YtmblkpjnafgplaaGreatDoorR30
import Derived.BigQuiet
import Derived.OwnWalk
import Derived.Test.YtmblkpjnafgplaaGreatDoorR13
import Derived.Test.YtmblkpjnafgplaaGreatDoorR15
namespace Go.Proofs.YtmblkpjnafgplaaGreatDoor
open Go Go.RowKit
set_option maxRecDepth 100000
set_option linter.unusedVariables false
set_option linter.unusedSimpArgs false

/-- a subject's numbers behind its first -/
theorem tail_seqs {A B : List Item} {i : Item} {ls : Nat} (srt : ((A ++ i :: B).map Item.seq).Pairwise (· < ·)) (hA : ∀ j ∈ A, j.rc.subj ≠ i.rc.subj) (hm : 2 ≤ (seqs (A ++ i :: B) i.rc.subj).length) (hls : (seqs (A ++ i :: B) i.rc.subj).getLast? = some ls) :
    seqs (A ++ i :: B) i.rc.subj = i.seq :: seqs (A ++ B) i.rc.subj ∧ (seqs (A ++ B) i.rc.subj).getLast? = some ls ∧ i.seq < ls ∧ (∀ k ∈ seqs (A ++ B) i.rc.subj, i.seq < k) ∧ (seqs (A ++ B) i.rc.subj).length + 1 = (seqs (A ++ i :: B) i.rc.subj).length ∧ B ≠ [] := by
  have hE : seqs (A ++ i :: B) i.rc.subj = i.seq :: seqs (A ++ B) i.rc.subj := by rw [seqs_split, seqs_two, seqs_none hA, if_pos rfl]; rfl
  have hs := seqs_srt (s := i.rc.subj) srt
  rw [hE] at hm hls hs ⊢
  have hp := List.pairwise_cons.1 hs
  have hB : B ≠ [] := by
    rintro rfl
    rw [seqs_two, seqs_none hA] at hm
    simp [seqs] at hm
  cases ht : seqs (A ++ B) i.rc.subj with
  | nil => rw [ht] at hm; simp at hm
  | cons x t =>
    rw [ht] at hls hp
    rw [List.getLast?_cons_cons] at hls
    exact ⟨rfl, hls, hp.1 ls (List.mem_of_getLast? hls), hp.1, rfl, hB⟩

theorem sub_less {w' : World} {A B : List Item} {i : Item} {b m ls : Nat} {C' : Array Value} (srt : ((A ++ i :: B).map Item.seq).Pairwise (· < ·)) (hA : ∀ j ∈ A, j.rc.subj ≠ i.rc.subj) (hm : m = (seqs (A ++ i :: B) i.rc.subj).length) (hm2 : 2 ≤ m) (hls : (seqs (A ++ i :: B) i.rc.subj).getLast? = some ls)
    (hC : Blk w' b 267 C') (h0 : C'[0]? = some (.int .u64 ((m - 1 : Nat) : Int))) (h1 : C'[1]? = some (.int .u64 ((if m = 2 then ls else i.seq : Nat) : Int))) (h2 : C'[2]? = some (.int .u64 (ls : Int))) (h3 : C'[3]? = some (.bool (decide (m ≠ 2)))) (h4 : C'[4]? = some (.bool false)) :
    SubAt w' (A ++ B) (i.rc.subj, b) := by
  obtain ⟨hE, hl, hlt, hall, hlen, _⟩ := tail_seqs srt hA (by omega) hls
  have hlm := List.mem_of_getLast? hl
  obtain ⟨j, hj, hjs, _⟩ := mem_seqs.1 hlm
  have hm1 : m - 1 = (seqs (A ++ B) i.rc.subj).length := by omega
  have hone : m = 2 → seqs (A ++ B) i.rc.subj = [ls] := fun e => by
    obtain ⟨x, hx⟩ := List.length_eq_one_iff.1 (by omega : (seqs (A ++ B) i.rc.subj).length = 1)
    rw [hx] at hl ⊢
    simp only [List.getLast?_singleton, Option.some.injEq] at hl
    rw [hl]
  refine ⟨if m = 2 then ls else i.seq, ls, decide (m ≠ 2), ⟨j, hj, hjs⟩, hl, fun k hk => ?_, fun hf => ?_, fun hf k hk => ?_, ?_, ?_, ?_, ?_, ?_⟩
  · by_cases e : m = 2
    · rw [if_pos e]; simp only at hk; rw [hone e, List.mem_singleton] at hk; omega
    · rw [if_neg e]; exact Nat.le_of_lt (hall k hk)
  · have e : m = 2 := by simpa using hf
    rw [if_pos e]; simp only; rw [hone e]; rfl
  · have e : ¬ m = 2 := by simpa using hf
    rw [if_neg e]; exact hall k hk
  · rw [hC.cell]; simp only; rw [← hm1]; exact h0
  · rw [hC.cell]; exact h1
  · rw [hC.cell]; exact h2
  · rw [hC.cell]; exact h3
  · rw [hC.cell]; exact h4

/-- what a taking out leaves -/
def Removed (w w' : World) (ms : Nat) (h : Hd) (I : List Item) (M : List Ent) (F : List Nat) : Prop :=
  ∃ (h' : Hd) (l : List Nat), StoreAt w' ms h' I M F ∧ (∀ k, Mut ms h' F k → Mut ms h F k ∨ w.heap.size ≤ k) ∧ h.Less h' ∧ h'.d3 = false ∧ l.Nodup ∧ (∀ x, x ∈ l ↔ (h'.fsq < x ∧ x ≤ h'.n ∧ x ∉ I.map Item.seq)) ∧ h'.d1 = (l.length : Int) ∧ Keep (Mut ms h F) w w'

/-- behind the counts -/
abbrev Hd.low (h : Hd) (y : Int) : Hd := { h with cnt := h.cnt - 1, byt := y }

def Rm1 (w w2 : World) (ms : Nat) (h : Hd) (y : Int) (i : Item) (I : List Item) : Prop :=
  ∃ nb d2, Blk w2 ms 87 ({ h.low y with d0 := .pointer (some ⟨nb, 0, none⟩), d1 := h.d1 + 1, d2 := d2 } : Hd).cells ∧ DAt w2 (.pointer (some ⟨nb, 0, none⟩)) (fun x => (h.fsq < x ∧ x ≤ h.n ∧ x ∉ I.map Item.seq) ∨ x = i.seq) ∧
    (h.d0 = .pointer (some ⟨nb, 0, none⟩) ∨ w.heap.size ≤ nb) ∧ Keep (fun x => x = ms ∨ h.d0 = .pointer (some ⟨x, 0, none⟩)) w w2

def Rm2 (w w3 : World) (ms : Nat) (h : Hd) (I : List Item) (G : Nat → Prop) : Prop :=
  ∃ (h' : Hd) (l : List Nat), h.Less h' ∧ h'.d3 = false ∧ Blk w3 ms 87 h'.cells ∧ (∀ j, I.head? = some j → h'.fsq = j.seq) ∧ DAt w3 h'.d0 (fun k => h'.fsq < k ∧ k ≤ h.n ∧ k ∉ I.map Item.seq) ∧
    (∀ k, h'.d0 = .pointer (some ⟨k, 0, none⟩) → h.d0 = .pointer (some ⟨k, 0, none⟩) ∨ w.heap.size ≤ k) ∧ l.Nodup ∧ (∀ x, x ∈ l ↔ (h'.fsq < x ∧ x ≤ h.n ∧ x ∉ I.map Item.seq)) ∧ h'.d1 = (l.length : Int) ∧ Keep G w w3

section
variable {w : World} {ms : Nat} {h : Hd} {A B : List Item} {i : Item} {M : List Ent} {F l : List Nat} {b : Nat}

theorem StoreAt.seq_not (S : StoreAt w ms h (A ++ i :: B) M F) : ¬ (h.fsq < i.seq ∧ i.seq ≤ h.n ∧ i.seq ∉ (A ++ i :: B).map Item.seq) := fun hx => hx.2.2 (List.mem_map.2 ⟨i, by simp, rfl⟩)

theorem StoreAt.low (S : StoreAt w ms h (A ++ i :: B) M F) {w1 : World} {y : Int} (h3 : h.d3 = false) (hl : l.Nodup) (hlm : ∀ x, x ∈ l ↔ (h.fsq < x ∧ x ≤ h.n ∧ x ∉ (A ++ i :: B).map Item.seq)) (hd1 : h.d1 = (l.length : Int)) (hb : Blk w1 ms 87 (h.low y).cells) (hk : Keep (fun k => k = ms) w w1) :
    Calls Tryz.prog 67 #[.pointer (some ⟨ms, 27, none⟩), .int .u64 (i.seq : Int)] w1 fun e w2 => e = .returned (.tuple #[]) ∧ Rm1 w w2 ms h y i (A ++ i :: B) := by
  have hin := S.num i (by simp)
  have hfew := S.few
  have hd : DAt w1 h.d0 (fun k => h.fsq < k ∧ k ≤ h.n ∧ k ∉ (A ++ i :: B).map Item.seq) := by
    rcases S.dm with hd | ⟨nb, B', h1, h2, h4⟩
    · exact .inl hd
    · exact .inr ⟨nb, B', h1, hk.blk h2 (S.dis3 nb h1).1, h4⟩
  have hlen : l.length ≤ 31 := nodup_le hl (fun x hx => by have := ((hlm x).1 hx).2.1; omega)
  refine (insert_any (h := h.low y) (k := i.seq) hb hd h3 ⟨by simp only; omega, by simp only; omega⟩ (by omega) S.seq_not (fun nb e => (S.dis3 nb e).1)).mono ?_
  rintro e w2 ⟨rfl, nb, d2, hb2, hd2, hor, hk2⟩
  have hsz := hk.size
  exact ⟨rfl, nb, d2, hb2, hd2, hor.imp id (fun hx => Nat.le_trans hsz hx), (hk.mono (G := fun x => x = ms ∨ h.d0 = .pointer (some ⟨x, 0, none⟩)) (fun _ _ e => .inl e)).trans hk2 (fun _ _ e => e)⟩

theorem StoreAt.rm2 (S : StoreAt w ms h (A ++ i :: B) M F) {w2 : World} {y : Int} (hB : B ≠ []) (h3 : h.d3 = false) (hl : l.Nodup) (hlm : ∀ x, x ∈ l ↔ (h.fsq < x ∧ x ≤ h.n ∧ x ∉ (A ++ i :: B).map Item.seq)) (hd1 : h.d1 = (l.length : Int)) (hy : 0 ≤ y ∧ y ≤ 20000 * (h.n : Int)) (h1 : Rm1 w w2 ms h y i (A ++ i :: B)) :
    Calls Tryz.prog 137 #[.pointer (some ⟨ms, 0, none⟩), .int .u64 (i.seq : Int)] w2 fun e w3 => e = .returned (.tuple #[]) ∧ Rm2 w w3 ms h (A ++ B) (fun x => x = ms ∨ h.d0 = .pointer (some ⟨x, 0, none⟩)) := by
  obtain ⟨nb, d2, hb2, hd2, hor, hk2⟩ := h1
  have hG : ∀ k, k ∈ F → ¬ (k = ms ∨ h.d0 = .pointer (some ⟨k, 0, none⟩)) := fun k hk hx => hx.elim (fun e => S.dis1.1 (e ▸ hk)) (fun e => (S.dis3 k e).2.2.2 hk)
  have hr : ¬ (h.r = ms ∨ h.d0 = .pointer (some ⟨h.r, 0, none⟩)) := fun hx => hx.elim (fun e => S.dis2.1 e.symm) (fun e => (S.dis3 _ e).2.1 rfl)
  have hms := S.hd.lt
  have hnl : i.seq ∉ l := fun hx => S.seq_not ((hlm _).1 hx)
  refine (first_post (h2 := { h.low y with d0 := .pointer (some ⟨nb, 0, none⟩), d1 := h.d1 + 1, d2 := d2 }) (l := i.seq :: l) hb2 (S.mapA.keep hk2 hr) S.srt S.num S.few hB S.first (fun j hj => ?_) hd2 h3 (List.nodup_cons.2 ⟨hnl, hl⟩) (fun x => ?_) ?_ (fun nb' e => ?_)).mono ?_
  · have hj' : j ∈ A ++ i :: B := List.mem_append.2 (.inr (List.mem_cons_of_mem _ hj))
    obtain ⟨A1, d1, A2, d2, A3, d3, hmb, hmn, _⟩ := S.msg j hj'
    exact ⟨_, hk2.blk hmb (fun hx => hmn (hx.elim .inl (fun e => .inr (.inr (.inr (.inr e)))))), rfl, rfl⟩
  · rw [List.mem_cons, hlm]
    exact ⟨fun hx => hx.elim .inr .inl, fun hx => hx.elim .inr .inl⟩
  · simp only [List.length_cons]; omega
  · injection e with e; injection e with e; injection e with e
    subst e
    rcases hor with h | h
    · exact (S.dis3 nb h).1
    · omega
  · rintro e w3 ⟨rfl, fsq, ft, d0, d1, d2', hb3, hf, hd3, he, ⟨l', hl', hlm', hd1'⟩, hk3⟩
    refine ⟨rfl, { h.low y with fsq := fsq, ft := ft, d0 := d0, d1 := d1, d2 := d2' }, l', ⟨rfl, rfl, rfl, rfl, rfl, ?_, rfl, rfl, rfl, hy⟩, h3, hb3, hf, hd3, fun k hk => ?_, hl', hlm', hd1', hk2.trans hk3 (fun k hk hx => ?_)⟩
    · have := S.cnt
      simp only [List.length_append, List.length_cons] at this
      simp only
      omega
    · rcases he with he | he
      · simp only at hk; rw [he] at hk
        injection hk with hk; injection hk with hk; injection hk with hk
        subst hk; exact hor
      · simp only at hk; rw [he] at hk; cases hk
    · rcases hx with hx | hx
      · exact .inl hx
      · simp only at hx
        injection hx with hx; injection hx with hx; injection hx with hx
        subst hx
        rcases hor with h | h
        · exact .inr h
        · omega

/-- the subject's state and the tree, behind removeSeqPerSubject -/
def Rm3 (w w4 : World) (ms : Nat) (h : Hd) (I : List Item) (M : List Ent) (F : List Nat) (s : Bs) (b : Nat) (L : List (Nat × Nat)) : Prop :=
  Rm2 w w4 ms h I (fun x => x = ms ∨ x = b ∨ h.d0 = .pointer (some ⟨x, 0, none⟩)) ∧ TreeAt w4 h.tb M.length M F ∧ SubAt w4 I (s, b) ∧ MapAt w4 h.r L

theorem StoreAt.rm3 (S : StoreAt w ms h (A ++ i :: B) M F) {w3 : World} (hA : ∀ j ∈ A, j.rc.subj ≠ i.rc.subj) (hm2 : 2 ≤ (seqs (A ++ i :: B) i.rc.subj).length) (hM : (i.rc.subj, b) ∈ M) (hfn : w.cell? ⟨b, 3, none⟩ = some (.bool false))
    (h2 : Rm2 w w3 ms h (A ++ B) (fun x => x = ms ∨ h.d0 = .pointer (some ⟨x, 0, none⟩))) :
    Calls Tryz.prog 75 #[.pointer (some ⟨ms, 0, none⟩), str i.rc.subj, .int .u64 (i.seq : Int)] w3 fun e w4 => e = .returned (.tuple #[]) ∧ Rm3 w w4 ms h (A ++ B) M F i.rc.subj b ((A ++ i :: B).map fun j => (j.seq, j.blk)) := by
  obtain ⟨h', l, hle, h3, hb, hf, hd, he, hl, hlm, hd1, hk⟩ := h2
  have hG : ∀ k, k ∈ F → ¬ (k = ms ∨ h.d0 = .pointer (some ⟨k, 0, none⟩)) := fun k hk hx => hx.elim (fun e => S.dis1.1 (e ▸ hk)) (fun e => (S.dis3 k e).2.2.2 hk)
  have hr : ¬ (h.r = ms ∨ h.d0 = .pointer (some ⟨h.r, 0, none⟩)) := fun hx => hx.elim (fun e => S.dis2.1 e.symm) (fun e => (S.dis3 _ e).2.1 rfl)
  have htb : ¬ (h.tb = ms ∨ h.d0 = .pointer (some ⟨h.tb, 0, none⟩)) := fun hx => hx.elim (fun e => S.dis2.2.1 e.symm) (fun e => (S.dis3 _ e).2.2.1 rfl)
  obtain ⟨hbF, C, hbw, hz⟩ := S.tree.mem _ hM
  simp only at hbF hbw
  have ht3 := S.tree.keep hk htb hG
  have hm3 := S.mapA.keep hk hr
  have hC3 := hk.blk hbw (hG _ hbF)
  obtain ⟨fs, ls, fn, _, hls, _, hfalse, _, c0, c1, c2, c3, c4⟩ := S.sub _ hM
  simp only at hls hfalse c0 c1 c2 c3 c4
  rw [hfn] at c3
  injection c3 with c3; injection c3 with c3
  subst c3
  obtain ⟨hE, hl2, hlt, hall, hlen, hB⟩ := tail_seqs S.srt hA hm2 hls
  have hfs : fs = i.seq := by have := hfalse rfl; rw [hE] at this; simpa using this.symm
  subst hfs
  have hi := S.num i (by simp)
  have hfew := S.few
  have hlsn : ls ≤ 30 := by
    obtain ⟨j, hj, _, hjs⟩ := mem_seqs.1 (List.mem_of_getLast? hls)
    have := S.num j hj; omega
  have hL30 : (seqs (A ++ i :: B) i.rc.subj).length ≤ 30 := by
    have h1 := S.len
    have h2 : (seqs (A ++ i :: B) i.rc.subj).length ≤ (A ++ i :: B).length := by unfold seqs; rw [List.length_map]; exact List.length_filter_le _ _
    omega
  have hs1 := (S.ok i (by simp)).s1
  rw [← hle.tb] at ht3
  have g : ∀ {j : Nat} {v : Value}, w.cell? ⟨b, j, none⟩ = some v → C[j]? = some v := fun hx => by rw [← hbw.cell]; exact hx
  refine (perSub_any (k := i.seq) (ls := ls) hb ht3 S.short S.uniq hM (by omega) hC3 (by omega) (g c0) (g c1) (g c2) (g hfn) (g c4) hm2 (by omega) (by omega) (by omega) (by omega)).mono ?_
  rintro e w4 ⟨rfl, C', hC', hz', k0, k1, k2, k3, k4, k5, hk4⟩
  rw [hle.tb] at ht3
  have hbm : ms ≠ b := fun e => S.dis1.1 (e ▸ hbF)
  have hdb : ∀ k, h'.d0 = .pointer (some ⟨k, 0, none⟩) → k ≠ b := fun k hk' e => by
    subst e
    rcases he k hk' with hx | hx
    · exact (S.dis3 _ hx).2.2.2 hbF
    · have := hbw.lt; omega
  refine ⟨rfl, ⟨h', l, hle, h3, hk4.blk hb hbm, hf, ?_, he, hl, hlm, hd1, ?_⟩, ht3.leafSet hk4 hC3 hC' hz' k5 hbF, sub_less S.srt hA rfl hm2 hls hC' k0 k1 k2 k3 k4, hm3.keep hk4 (fun e => S.dis1.2 (e ▸ hbF))⟩
  · rcases hd with hd | ⟨nb, B', h1, h2, h4⟩
    · exact .inl hd
    · exact .inr ⟨nb, B', h1, hk4.blk h2 (hdb nb h1), h4⟩
  · exact (hk.mono (G := fun x => x = ms ∨ x = b ∨ h.d0 = .pointer (some ⟨x, 0, none⟩)) (fun _ _ hx => hx.imp id .inr)).trans hk4 (fun _ _ hx => .inr (.inl hx))

theorem StoreAt.rm4 (S : StoreAt w ms h (A ++ i :: B) M F) {w4 w5 : World} (hA : ∀ j ∈ A, j.rc.subj ≠ i.rc.subj) (hm2 : 2 ≤ (seqs (A ++ i :: B) i.rc.subj).length) (hM : (i.rc.subj, b) ∈ M) (hmp : 0 < h.mp)
    (h3 : Rm3 w w4 ms h (A ++ B) M F i.rc.subj b ((A ++ i :: B).map fun j => (j.seq, j.blk))) (hm : MapAt w5 h.r (((A ++ i :: B).map fun j => (j.seq, j.blk)).filter fun x => x.1 != i.seq)) (hk : Keep (fun x => x = h.r) w4 w5) : Removed w w5 ms h (A ++ B) M F := by
  obtain ⟨⟨h', l, hle, h3, hb, hf, hd, he, hl, hlm, hd1, hk4⟩, ht, hsub, _⟩ := h3
  rw [map_filter_out S.srt] at hm
  have hbF := (S.tree.mem _ hM).1
  simp only at hbF
  obtain ⟨fs, ls, fn, _, hls, _⟩ := S.sub _ hM
  obtain ⟨_, _, _, _, _, hB⟩ := tail_seqs S.srt hA hm2 hls
  have hk5 : Keep (fun x => x = ms ∨ x = h.r ∨ x = b ∨ h.d0 = .pointer (some ⟨x, 0, none⟩)) w w5 := (hk4.mono (G := fun x => x = ms ∨ x = h.r ∨ x = b ∨ h.d0 = .pointer (some ⟨x, 0, none⟩)) (fun _ _ hx => hx.imp id .inr)).trans hk (fun _ _ hx => .inr (.inl hx))
  have hd5 : DAt w5 h'.d0 (fun k => h'.fsq < k ∧ k ≤ h.n ∧ k ∉ (A ++ B).map Item.seq) := by
    rcases hd with hd | ⟨nb, B', h1, h2, h4⟩
    · exact .inl hd
    · refine .inr ⟨nb, B', h1, hk.blk h2 (fun e => ?_), h4⟩
      subst e
      rcases he _ h1 with hx | hx
      · exact (S.dis3 _ hx).2.1 rfl
      · have := S.mapA.lt; omega
  obtain ⟨hS, hMut⟩ := S.removed (b := b) (h' := h') rfl hB hM hmp hle hf hk5 (fun k _ hx => hx) (hk.blk hb (fun e => S.dis2.1 e)) hm (ht.keep hk (fun e => S.dis2.2.2 e.symm) (fun k hk' e => S.dis1.2 (e ▸ hk'))) (hsub.keep hk (fun e => S.dis1.2 (e ▸ hbF))) hd5 he
  refine ⟨h', l, hS, hMut, hle, h3, hl, fun x => by rw [hle.n]; exact hlm x, hd1, hk5.mono (fun k _ hx => ?_)⟩
  rcases hx with hx | hx | hx | hx
  · exact .inl hx
  · exact .inr (.inl hx)
  · exact .inr (.inr (.inr (.inl (hx ▸ hbF))))
  · exact .inr (.inr (.inr (.inr hx)))
end

set_option maxHeartbeats 4000000 in
theorem removeNo_any {w : World} {ms : Nat} {h : Hd} {A B : List Item} {i : Item} {M : List Ent} {F l : List Nat} {b : Nat} (S : StoreAt w ms h (A ++ i :: B) M F) (hA : ∀ j ∈ A, j.rc.subj ≠ i.rc.subj) (hm2 : 2 ≤ (seqs (A ++ i :: B) i.rc.subj).length) (hM : (i.rc.subj, b) ∈ M) (hmp : 0 < h.mp)
    (h3 : h.d3 = false) (hl : l.Nodup) (hlm : ∀ x, x ∈ l ↔ (h.fsq < x ∧ x ≤ h.n ∧ x ∉ (A ++ i :: B).map Item.seq)) (hd1 : h.d1 = (l.length : Int)) (hfn : w.cell? ⟨b, 3, none⟩ = some (.bool false)) :
    Calls Tryz.prog 72 #[.pointer (some ⟨ms, 0, none⟩), .int .u64 (i.seq : Int), .bool false] w fun e w' => (∃ v1 v2, e = .returned (.tuple #[v1, v2, .bool true])) ∧ Removed w w' ms h (A ++ B) M F := by
  have hi : i ∈ A ++ i :: B := List.mem_append.2 (.inr List.mem_cons_self)
  obtain ⟨A1, d1, A2, d2, A3, d3, hmb, hmn, _, _, _, _, _, _, _, _⟩ := S.msg i hi
  have hok := S.ok i hi
  have x0 : w.cell? ⟨i.blk, 0, none⟩ = some (str i.rc.subj) := by rw [hmb.cell]; rfl
  have x1 : w.cell? ⟨i.blk, 1, none⟩ = some (.slice A1 i.rc.hdr.length d1) := by rw [hmb.cell]; rfl
  have x2 : w.cell? ⟨i.blk, 2, none⟩ = some (.slice A2 i.rc.dat.length d2) := by rw [hmb.cell]; rfl
  have c14 : w.cell? ⟨ms, 14, none⟩ = some (.int .u64 (h.cnt : Int)) := by rw [S.hd.cell]; rfl
  have c15 : w.cell? ⟨ms, 15, none⟩ = some (.int .u64 h.byt) := by rw [S.hd.cell]; rfl
  have c25 : w.cell? ⟨ms, 25, none⟩ = some (.map (some h.r)) := by rw [S.hd.cell]; rfl
  have f14 := S.hd.frozen 14
  have f15 := S.hd.frozen 15
  have hms := msgSize_any i.rc.subj A1 A2 i.rc.hdr.length d1 i.rc.dat.length d2
  have hsum : i.rc.subj.length + i.rc.hdr.length + i.rc.dat.length ≤ 12288 := by have := hok.s1; have := hok.h1; have := hok.d1; omega
  have hcnt0 : (0 : Int) < (h.cnt : Int) := by have := S.cnt; rw [this]; simp only [List.length_append, List.length_cons]; omega
  have hcnt1 : (h.cnt : Int) ≤ 30 := by have := S.cnt; have := S.len; omega
  have hbyt := S.byt
  have hfew : (h.n : Int) ≤ 30 := by have := S.few; omega
  have HM := Lib.hid (And.intro S.mapA (And.intro S.nodup (List.mem_map.2 ⟨i, hi, rfl⟩ : (i.seq, i.blk) ∈ (A ++ i :: B).map fun i => (i.seq, i.blk))))
  generalize hsz : i.rc.subj.length + i.rc.hdr.length + i.rc.dat.length = sz at hms hsum
  have hsz0 : (0 : Int) ≤ (sz : Int) := Int.natCast_nonneg _
  have hsz1 : (sz : Int) ≤ 12288 := by omega
  have HMS := Lib.hid hms
  have hcn : ((h.cnt - 1 : Nat) : Int) = (h.cnt : Int) - 1 := by omega
  obtain ⟨fs, ls, fn, _, hls, _⟩ := S.sub _ hM
  obtain ⟨_, _, _, _, _, hB⟩ := tail_seqs S.srt hA hm2 hls
  have hw1 : ∀ nq y, Blk (((w.drewN nq).setCell ⟨ms, 14, none⟩ (.int .u64 ((h.cnt : Int) - 1))).setCell ⟨ms, 15, none⟩ (.int .u64 y)) ms 87 (h.low y).cells ∧ Keep (fun k => k = ms) w (((w.drewN nq).setCell ⟨ms, 14, none⟩ (.int .u64 ((h.cnt : Int) - 1))).setCell ⟨ms, 15, none⟩ (.int .u64 y)) := by
    intro nq y
    have h1 := (((Keep.refl NoB w).drewN nq).blk S.hd (fun h => h)).set_ 14 (.int .u64 ((h.cnt : Int) - 1))
    have h2 := h1.set_ 15 (.int .u64 y)
    refine ⟨?_, ((((Keep.refl (fun k => k = ms) w).drewN nq).put rfl 14 _).put rfl 15 _)⟩
    have e : (h.low y).cells = (h.cells.setIfInBounds 14 (.int .u64 ((h.cnt : Int) - 1))).setIfInBounds 15 (.int .u64 y) := by rw [← hcn]; rfl
    rw [e]; exact h2
  have hmbK : ∀ {G : Nat → Prop} {w' : World}, Keep G w w' → (∀ k, k < w.heap.size → G k → Mut ms h F k) → w'.cell? ⟨i.blk, 0, none⟩ = some (str i.rc.subj) := fun hk hG => hk.cellS x0 (fun hx => hmn (hG _ hmb.lt hx))
  have hbF := (S.tree.mem _ hM).1
  have HS := Lib.hid (And.intro S (And.intro (fun w1 y hb hk => S.low (w1 := w1) (y := y) h3 hl hlm hd1 hb hk) (And.intro (fun w2 y hy h1 => S.rm2 (w2 := w2) (y := y) hB h3 hl hlm hd1 hy h1) (And.intro (fun w3 h2 => S.rm3 (w3 := w3) hA hm2 hM hfn h2) (fun w4 w5 h3 hm hk => S.rm4 (w4 := w4) (w5 := w5) hA hm2 hM hmp h3 hm hk)))))
  have HW := Lib.hid (And.intro hw1 (And.intro @hmbK hbF))
  clear hms hsz S hmb hi hw1 hmbK hbF hls hB hl hlm hd1 hm2 hA
  by_cases hgt : h.byt < ((sz + 16 : Nat) : Int)
  · go_enter Tryz.func72, Tryz.ntmps72
    go_wp2_with (first | (refine wpList_look rfl _ _ rfl i.seq i.blk rfl rfl HM.out.1 HM.out.2.1 HM.out.2.2 ?_) | fail)
    go_quiet ((go_at_call 74; exact (HMS.out _ (by omega)).mono (fun _ _ h => ⟨h.1, _, h.2⟩)))
    go_wp2_with fail
    refine (HS.out.2.1 _ (0) (HW.out.1 _ _).1 (HW.out.1 _ _).2).mono ?_
    rintro e w2 ⟨rfl, hr1⟩
    have H1 := Lib.hid hr1
    clear hr1
    go_wp2_with fail
    refine (HS.out.2.2.1 _ _ ⟨by omega, by omega⟩ H1.out).mono ?_
    rintro e w3 ⟨rfl, hr2⟩
    have y0 : w3.cell? ⟨i.blk, 0, none⟩ = some (str i.rc.subj) := by
      obtain ⟨h', l', _, _, _, _, _, _, _, _, _, hk⟩ := hr2
      exact HW.out.2.1 hk (fun k _ hx => hx.elim .inl (fun e => .inr (.inr (.inr (.inr e)))))
    have H2 := Lib.hid hr2
    clear hr2
    go_wp2_with fail
    refine (HS.out.2.2.2.1 _ H2.out).mono ?_
    rintro e w4 ⟨rfl, hr3⟩
    have z25 : w4.cell? ⟨ms, 25, none⟩ = some (.map (some h.r)) := by
      obtain ⟨⟨h', l', hle, _, hb, _⟩, _⟩ := hr3
      rw [hb.cell, ← hle.r]; rfl
    have z0 : w4.cell? ⟨i.blk, 0, none⟩ = some (str i.rc.subj) := by
      obtain ⟨⟨h', l', _, _, _, _, _, _, _, _, _, hk⟩, _⟩ := hr3
      exact HW.out.2.1 hk (fun k _ hx => by
        rcases hx with hx | hx | hx
        · exact .inl hx
        · exact .inr (.inr (.inr (.inl (hx ▸ HW.out.2.2))))
        · exact .inr (.inr (.inr (.inr hx))))
    have zne : i.blk ≠ h.r := fun e => hmn (.inr (.inl e))
    have HR := Lib.hid (And.intro hr3 (And.intro hr3.2.2.2 zne))
    clear hr3 y0 zne
    go_wp2_with (first | (refine wpList_del rfl _ _ rfl i.seq i.blk rfl rfl HR.out.2.1 HM.out.2.1 HM.out.2.2 ?_; intro w5 hm5 hk5; have u0 := hk5.cellS z0 HR.out.2.2; have H5 := Lib.hid (And.intro hm5 hk5); clear hm5 hk5 z0) | fail)

    go_ret3
    exact ⟨⟨_, _, rfl⟩, HS.out.2.2.2.2 _ _ HR.out.1 H5.out.1 H5.out.2⟩
  · go_enter Tryz.func72, Tryz.ntmps72
    go_wp2_with (first | (refine wpList_look rfl _ _ rfl i.seq i.blk rfl rfl HM.out.1 HM.out.2.1 HM.out.2.2 ?_) | fail)
    go_quiet ((go_at_call 74; exact (HMS.out _ (by omega)).mono (fun _ _ h => ⟨h.1, _, h.2⟩)))
    go_wp2_with fail
    refine (HS.out.2.1 _ (h.byt - ((sz + 16 : Nat) : Int)) (HW.out.1 _ _).1 (HW.out.1 _ _).2).mono ?_
    rintro e w2 ⟨rfl, hr1⟩
    have H1 := Lib.hid hr1
    clear hr1
    go_wp2_with fail
    refine (HS.out.2.2.1 _ _ ⟨by omega, by omega⟩ H1.out).mono ?_
    rintro e w3 ⟨rfl, hr2⟩
    have y0 : w3.cell? ⟨i.blk, 0, none⟩ = some (str i.rc.subj) := by
      obtain ⟨h', l', _, _, _, _, _, _, _, _, _, hk⟩ := hr2
      exact HW.out.2.1 hk (fun k _ hx => hx.elim .inl (fun e => .inr (.inr (.inr (.inr e)))))
    have H2 := Lib.hid hr2
    clear hr2
    go_wp2_with fail
    refine (HS.out.2.2.2.1 _ H2.out).mono ?_
    rintro e w4 ⟨rfl, hr3⟩
    have z25 : w4.cell? ⟨ms, 25, none⟩ = some (.map (some h.r)) := by
      obtain ⟨⟨h', l', hle, _, hb, _⟩, _⟩ := hr3
      rw [hb.cell, ← hle.r]; rfl
    have z0 : w4.cell? ⟨i.blk, 0, none⟩ = some (str i.rc.subj) := by
      obtain ⟨⟨h', l', _, _, _, _, _, _, _, _, _, hk⟩, _⟩ := hr3
      exact HW.out.2.1 hk (fun k _ hx => by
        rcases hx with hx | hx | hx
        · exact .inl hx
        · exact .inr (.inr (.inr (.inl (hx ▸ HW.out.2.2))))
        · exact .inr (.inr (.inr (.inr hx))))
    have zne : i.blk ≠ h.r := fun e => hmn (.inr (.inl e))
    have HR := Lib.hid (And.intro hr3 (And.intro hr3.2.2.2 zne))
    clear hr3 y0 zne
    go_wp2_with (first | (refine wpList_del rfl _ _ rfl i.seq i.blk rfl rfl HR.out.2.1 HM.out.2.1 HM.out.2.2 ?_; intro w5 hm5 hk5; have u0 := hk5.cellS z0 HR.out.2.2; have H5 := Lib.hid (And.intro hm5 hk5); clear hm5 hk5 z0) | fail)
    go_ret3
    exact ⟨⟨_, _, rfl⟩, HS.out.2.2.2.2 _ _ HR.out.1 H5.out.1 H5.out.2⟩

end Go.Proofs.YtmblkpjnafgplaaGreatDoor

namespace Go.Proofs.YtmblkpjnafgplaaGreatDoor
open Go Go.RowKit
set_option maxRecDepth 100000
set_option linter.unusedVariables false
set_option linter.unusedSimpArgs false

theorem remove_any {w : World} {ms : Nat} {h : Hd} {A B : List Item} {i : Item} {M : List Ent} {F l : List Nat} {b : Nat} (S : StoreAt w ms h (A ++ i :: B) M F) (hA : ∀ j ∈ A, j.rc.subj ≠ i.rc.subj) (hm2 : 2 ≤ (seqs (A ++ i :: B) i.rc.subj).length) (hM : (i.rc.subj, b) ∈ M) (hmp : 0 < h.mp)
    (h3 : h.d3 = false) (hl : l.Nodup) (hlm : ∀ x, x ∈ l ↔ (h.fsq < x ∧ x ≤ h.n ∧ x ∉ (A ++ i :: B).map Item.seq)) (hd1 : h.d1 = (l.length : Int)) (hfn : w.cell? ⟨b, 3, none⟩ = some (.bool false)) :
    Calls Tryz.prog 68 #[.pointer (some ⟨ms, 0, none⟩), .int .u64 (i.seq : Int), .bool false] w fun e w' => e = .returned (.bool true) ∧ Removed w w' ms h (A ++ B) M F := by
  have HN := Lib.hid (removeNo_any S hA hm2 hM hmp h3 hl hlm hd1 hfn)
  clear S hA hm2 hM hmp h3 hl hlm hd1 hfn
  go_enter Tryz.func68, Tryz.ntmps68
  go_wp2_with fail
  refine HN.out.mono ?_
  rintro e w' ⟨⟨v1, v2, rfl⟩, hr⟩
  have HR := Lib.hid hr
  clear hr
  go_wp2_with fail
  go_ret
  exact ⟨rfl, HR.out⟩

theorem Removed.from {w w1 w' : World} {ms : Nat} {h : Hd} {I : List Item} {M : List Ent} {F : List Nat} {b : Nat} (hr : Removed w1 w' ms h I M F) (hk : Keep (fun k => k = b) w w1) (hbF : b ∈ F) : Removed w w' ms h I M F := by
  obtain ⟨h', l, hS, hMut, hle, h3, hl, hlm, hd1, hkk⟩ := hr
  exact ⟨h', l, hS, fun k hk' => (hMut k hk').imp id (fun hx => Nat.le_trans hk.size hx), hle, h3, hl, hlm, hd1, (hk.mono (G := Mut ms h F) (fun k _ e => .inr (.inr (.inr (.inl (e ▸ hbF)))))).trans hkk (fun _ _ hx => hx)⟩

set_option maxHeartbeats 4000000 in
theorem enforce_any {w : World} {ms : Nat} {h : Hd} {its : List Item} {s : Bs} {M : List Ent} {F l : List Nat} {b : Nat} (S : StoreAt w ms h its M F) (hlen : (seqs its s).length = h.mp + 1) (hM : (s, b) ∈ M) (hmp : 0 < h.mp)
    (h3 : h.d3 = false) (hl : l.Nodup) (hlm : ∀ x, x ∈ l ↔ (h.fsq < x ∧ x ≤ h.n ∧ x ∉ its.map Item.seq)) (hd1 : h.d1 = (l.length : Int)) :
    Calls Tryz.prog 83 #[.pointer (some ⟨ms, 0, none⟩), str s, .pointer (some ⟨b, 0, none⟩)] w fun e w' => e = .returned (.tuple #[]) ∧ ∃ A i B, its = A ++ i :: B ∧ i.rc.subj = s ∧ (∀ j ∈ A, j.rc.subj ≠ s) ∧ Removed w w' ms h (A ++ B) M F := by
  obtain ⟨k0, hk0⟩ : ∃ k0, (seqs its s).head? = some k0 := by
    cases hq : seqs its s with
    | nil => rw [hq] at hlen; simp at hlen
    | cons x t => exact ⟨x, rfl⟩
  obtain ⟨A, i, B, rfl, rfl, rfl, hA⟩ := first_split hk0
  obtain ⟨hbF, C, hbw, hz⟩ := S.tree.mem _ hM
  simp only at hbF hbw
  obtain ⟨fs, ls, fn, _, hls, _, hfalse, _, c0, c1, c2, c3, c4⟩ := S.sub _ hM
  simp only at hls hfalse c0 c1 c2 c3 c4
  have hm2 : 2 ≤ (seqs (A ++ i :: B) i.rc.subj).length := by omega
  obtain ⟨_, _, _, _, hlen2, _⟩ := tail_seqs S.srt hA hm2 hls
  have hmpb := S.mpb.1
  have c31 : w.cell? ⟨ms, 31, none⟩ = some (.int .i64 (h.mp : Int)) := by rw [S.hd.cell]; rfl
  have g0 : (0 : Int) < (h.mp : Int) := by omega
  have g1 : (h.mp : Int) ≤ 1000 := by omega
  have g2 : (((seqs (A ++ i :: B) i.rc.subj).length : Nat) : Int) = (h.mp : Int) + 1 := by omega
  rw [g2] at c0
  have hbne : ms ≠ b := fun e => S.dis1.1 (e ▸ hbF)
  have post : ∀ w', Removed w w' ms h (A ++ B) M F → w'.cell? ⟨b, 0, none⟩ = some (.int .u64 (h.mp : Int)) ∧ w'.cell? ⟨ms, 31, none⟩ = some (.int .i64 (h.mp : Int)) := by
    rintro w' ⟨h', l', hS, _, hle, _⟩
    obtain ⟨fs', ls', fn', _, _, _, _, _, k0, _⟩ := hS.sub _ hM
    simp only at k0
    have e : (((seqs (A ++ B) i.rc.subj).length : Nat) : Int) = (h.mp : Int) := by omega
    rw [e] at k0
    exact ⟨k0, by rw [hS.hd.cell, ← hle.mp]; rfl⟩
  have rem : ∀ w1, StoreAt w1 ms h (A ++ i :: B) M F → w1.cell? ⟨b, 3, none⟩ = some (.bool false) → Calls Tryz.prog 68 #[.pointer (some ⟨ms, 0, none⟩), .int .u64 (i.seq : Int), .bool false] w1 fun e w' => e = .returned (.bool true) ∧ Removed w1 w' ms h (A ++ B) M F :=
    fun w1 S1 hf => remove_any S1 hA hm2 hM hmp h3 hl hlm hd1 hf
  have HP := Lib.hid (And.intro post (And.intro rem (And.intro S hbF)))
  have HQ := Lib.hid (And.intro hA (And.intro hm2 (And.intro hM hk0)))
  clear post rem S hbF hA hm2 hM hbw hlen hlen2 hls h3 hl hlm hd1 g2
  go_enter Tryz.func83, Tryz.ntmps83
  go_wp2_with fail
  go_loopw [6] (fun v6 wr => (v6 = .int .u64 ((h.mp : Int) + 1) ∧ wr = w) ∨ (v6 = .int .u64 (h.mp : Int) ∧ Removed w wr ms h (A ++ B) M F)) (fun v6 _ => (intOf v6).toNat)
  case atStart => exact .inl ⟨rfl, rfl⟩
  case round =>
    rcases hrel with ⟨rfl, rfl⟩ | ⟨rfl, hr⟩
    · cases fn with
      | true =>
        have hrc := recalc_any HP.out.2.2.1 HQ.out.2.2.1 HQ.out.2.1 c3
        have HC := Lib.hid hrc
        clear hrc c1 c2 hfalse hk0
        go_wp2_with fail
        refine HC.out.mono ?_
        rintro e w1 ⟨rfl, k, hk, k1, k3, S1, hkk⟩
        rw [HQ.out.2.2.2] at hk
        injection hk with hk
        subst hk
        have HS1 := Lib.hid (And.intro S1 (And.intro k3 hkk))
        clear S1 hkk k3 c0 c3 c4 c31
        go_wp2_with fail
        refine (HP.out.2.1 _ HS1.out.1 HS1.out.2.1).mono ?_
        rintro e w2 ⟨rfl, hr⟩
        have hr2 := hr.from HS1.out.2.2 HP.out.2.2.2
        obtain ⟨p0, p31⟩ := HP.out.1 _ hr2
        have HR := Lib.hid hr2
        clear hr hr2 k1
        go_wp2_with fail
        exact ⟨.inr ⟨rfl, HR.out⟩, by simp [intOf]⟩
      | false =>
        have hfs : fs = i.seq := by have := hfalse rfl; rw [hk0] at this; injection this with this; exact this.symm
        subst hfs
        have c3' := Lib.hid c3
        clear hfalse hk0
        go_wp2_with fail
        refine (HP.out.2.1 _ HP.out.2.2.1 c3'.out).mono ?_
        rintro e w2 ⟨rfl, hr⟩
        obtain ⟨p0, p31⟩ := HP.out.1 _ hr
        have HR := Lib.hid hr
        clear hr c0 c1 c2 c3 c4 c31
        go_wp2_with fail
        exact ⟨.inr ⟨rfl, HR.out⟩, by simp [intOf]⟩
    · obtain ⟨p0, p31⟩ := HP.out.1 _ hr
      have HR := Lib.hid hr
      clear hr c0 c1 c2 c3 c4 c31
      go_wp2_with fail
      go_end0
      exact ⟨rfl, A, i, B, rfl, rfl, HQ.out.1, HR.out⟩

end Go.Proofs.YtmblkpjnafgplaaGreatDoor

namespace Go.Proofs.YtmblkpjnafgplaaGreatDoor
open Go Go.RowKit
set_option maxRecDepth 100000
set_option linter.unusedVariables false
set_option linter.unusedSimpArgs false

theorem Removed.drewN {w w' : World} {ms : Nat} {h : Hd} {I : List Item} {M : List Ent} {F : List Nat} (hr : Removed w w' ms h I M F) (q : Nat) : Removed w (w'.drewN q) ms h I M F := by
  obtain ⟨h', l, hS, hMut, hle, h3, hl, hlm, hd1, hkk⟩ := hr
  exact ⟨h', l, hS.keep ((Keep.refl NoB w').drewN q) (fun _ _ h => h), hMut, hle, h3, hl, hlm, hd1, hkk.drewN q⟩

/-- the numbers that were taken out, behind a new message -/
theorem lim_next {w3 : World} {ms : Nat} {h h2 : Hd} {its : List Item} {M : List Ent} {F : List Nat} {rc : Rec} {b : Nat} (S : StoreAt w3 ms h2 (its ++ [⟨h.n + 1, b, rc⟩]) M F) (hn : h.Next h2) (hl : Lim h its) (h0 : 0 < h.mp) :
    h2.d3 = false ∧ ∃ l : List Nat, l.Nodup ∧ (∀ x, x ∈ l ↔ (h2.fsq < x ∧ x ≤ h2.n ∧ x ∉ (its ++ ([⟨h.n + 1, b, rc⟩] : List Item)).map Item.seq)) ∧ h2.d1 = (l.length : Int) := by
  obtain ⟨q1, q2, l, q5, q3, q4, q6⟩ := hl h0
  refine ⟨by rw [hn.d3]; exact q2, l, q5, fun x => ?_, by rw [hn.d1]; exact q6⟩
  have hc := S.cnt
  rw [hn.cnt, List.length_append] at hc
  simp only [List.length_cons, List.length_nil] at hc
  rw [hn.n, hn.fsq, List.map_append]
  by_cases hi : its = []
  · subst hi
    rw [q4 rfl]
    simp only [List.length_nil] at hc
    rw [if_pos (by omega)]
    constructor
    · intro h; cases h
    · rintro ⟨h1, h2, _⟩; omega
  · have h2 := List.length_pos_iff.2 hi
    rw [if_neg (by omega), q3 hi x]
    simp only [List.mem_append, List.map_cons, List.map_nil, List.mem_singleton, not_or]
    constructor
    · rintro ⟨h1, h2, h3⟩; exact ⟨h1, by omega, h3, by omega⟩
    · rintro ⟨h1, h2, h3, h4⟩; exact ⟨h1, by omega, h3⟩

theorem Removed.stored {w w3 w' : World} {ms : Nat} {h h2 : Hd} {its A B : List Item} {i : Item} {M : List Ent} {F : List Nat} {rc : Rec} {b : Nat} (S : StoreAt w3 ms h2 (its ++ [⟨h.n + 1, b, rc⟩]) M F) (hn : h.Next h2) (hl : Lim h its)
    (h0 : 0 < h.mp) (hfull : (seqs its rc.subj).length = h.mp) (e : its ++ [⟨h.n + 1, b, rc⟩] = A ++ i :: B) (hi : i.rc.subj = rc.subj) (hA : ∀ j ∈ A, j.rc.subj ≠ rc.subj) (hr : Removed w3 w' ms h2 (A ++ B) M F) (hk : Keep (Mut ms h F) w w3) : Stored w w' ms h its M F rc := by
  obtain ⟨h', l, hS, hMut, hle, h3, hln, hlm, hd1, hkk⟩ := hr
  obtain ⟨q1, _⟩ := hl h0
  have hM2 : ∀ k, Mut ms h2 F k → Mut ms h F k := fun k hk' => by
    unfold Mut at hk' ⊢
    rw [hn.r, hn.tb, hn.d0] at hk'
    exact hk'
  have hlen : ∀ s, (seqs (A ++ B) s).length + (if rc.subj = s then 1 else 0) = (seqs its s).length + (if rc.subj = s then 1 else 0) := by
    intro s
    have h1 : seqs (its ++ [⟨h.n + 1, b, rc⟩]) s = seqs (A ++ i :: B) s := by rw [e]
    rw [seqs_app, seqs_split] at h1
    have h2 := congrArg List.length h1
    rw [seqs_two]
    by_cases hs : rc.subj = s
    · rw [if_pos hs]
      rw [if_pos hs, if_pos (hi.trans hs)] at h2
      simp only [List.length_append, List.length_cons, List.length_nil] at h2 ⊢
      omega
    · rw [if_neg hs]
      rw [if_neg hs, if_neg (fun hx => hs (hi.symm.trans hx))] at h2
      simp only [List.length_append, List.length_nil] at h2 ⊢
      omega
  refine ⟨⟨h', A ++ B, M, F, hS, ⟨hle.l0.trans hn.l0, hle.l4.trans hn.l4, hle.mm.trans hn.mm, hle.mp.trans hn.mp, hle.disc.trans hn.disc⟩, hle.n.trans hn.n, ?_, ?_, fun k hk' => ?_⟩, hk.trans hkk (fun k _ hx => hM2 k hx)⟩
  · have ep : pairs (its ++ [⟨h.n + 1, b, rc⟩]) = pairs its ++ [(h.n + 1, rc)] := by simp [pairs]
    have hlp := len_pairs (its ++ [⟨h.n + 1, b, rc⟩]) rc.subj
    rw [seqs_app, if_pos rfl, List.length_append, ep] at hlp
    rw [addRec, hlp, if_pos ⟨h0, by simp only [List.length_cons, List.length_nil]; omega⟩, ← ep, e, ← hi, pairs_erase (fun j hj => by rw [hi]; exact hA j hj)]
  · intro _
    refine ⟨fun s => ?_, h3, l, hln, fun _ x => hlm x, fun hx => ?_, hd1⟩
    · rw [hle.mp, hn.mp]
      have := hlen s
      have := q1 s
      omega
    · have hz := hlen rc.subj
      rw [hx, if_pos rfl] at hz
      have h00 : (seqs ([] : List Item) rc.subj).length = 0 := rfl
      omega
  · rcases hMut k hk' with hx | hx
    · exact .inl (hM2 k hx)
    · exact .inr (Nat.le_trans hk.size hx)

end Go.Proofs.YtmblkpjnafgplaaGreatDoor

namespace Go.Proofs.YtmblkpjnafgplaaGreatDoor
open Go Go.RowKit
set_option maxRecDepth 100000
set_option linter.unusedVariables false
set_option linter.unusedSimpArgs false

set_option maxHeartbeats 4000000 in
set_option maxRecDepth 1000000 in
theorem st19o {R : Ending → World → Prop} {ms : Nat} {rc : Rec} {Ah Ad : Option Addr} {ch cd : Nat} {u8 u9 u10 u11 u12 u13 u14 u15 u18 u19 u20 u21 u22 u23 u24 u25 u26 u27 u28 u29 u30 u31 u32 u33 u34 u35 u36 u37 u38 u39 u40 u41 u42 u43 u44 u45 u46 u47 u48 u49 u50 u51 u52 u53 u54 u55 u56 u57 u58 u59 u60 u61 u62 u63 u64 u65 u66 u67 u68 u69 u70 u71 u72 u73 u74 u75 u76 u77 u78 u79 u80 u81 u82 u83 u84 u85 u86 u87 u88 u89 u90 u91 u92 u93 u94 u95 u96 u97 u98 u99 u100 u101 u102 u103 u104 u105 u106 u107 u108 u109 u110 u111 u112 u113 u114 u115 u116 u117 u118 u119 u120 u121 u122 u123 u124 u125 u126 u127 u128 u129 u130 u131 u132 u133 u134 u135 u136 u137 u138 u139 u140 u141 u142 u143 u144 u145 u146 u147 u148 u149 u150 u151 u152 u153 u154 u155 u156 u157 u158 u159 u160 u161 u162 u163 u164 u165 u166 u167 u168 u169 u170 u171 u172 u173 u174 u175 u176 u177 u178 u179 u180 u181 u182 u183 u184 u185 u186 u187 u188 u189 u190 u191 u192 u193 u194 u195 u196 u197 u198 u199 u200 u201 u202 u203 u204 u205 u206 u207 u208 u209 u210 u211 u212 u213 u214 u215 u216 u217 u218 u219 u220 u221 u222 u223 u224 u225 u226 u227 u228 u229 u230 u231 u232 u233 u234 u235 u236 u237 u238 u239 u240 u241 u242 u243 u244 u245 u246 u247 u248 u249 u250 u251 u252 u253 u254 u255 u256 u257 u258 u259 u260 u261 u262 u263 u264 u265 u266 u267 u268 u269 u270 u271 u272 u273 u274 u275 u276 u277 u278 u279 u280 u281 u282 u283 u284 u285 u286 u287 u288 u289 u290 u291 u292 u293 u294 u295 u296 u297 u298 u299 u300 u301 u302 u303 u304 u305 u306 u307 u308 u309 u310 u311 u312 u313 u314 u315 u316 u317 u318 u319 u320 u321 u322 u323 u324 u325 u326 u327 u328 u329 u330 u331 u332 u333 u334 u335 u336 u337 u338 u339 u340 u341 u342 u343 u344 u345 u346 u347 u348 u349 u350 u351 u352 u353 u354 u355 u356 u357 u358 u359 u360 u361 u362 : Value} {w wx : World} {h h2 : Hd} {its : List Item} {M : List Ent} {F : List Nat} {b : Nat} (m : Mid w wx ms h its M F rc h2 b) (S : StoreAt w ms h its M F) (hok : rc.Ok) (hn : h.n < 30) (hl : Lim h its) {b0 : Nat} (hM : (rc.subj, b0) ∈ M) (h0 : 0 < h.mp) (hw : (seqs its rc.subj).length = h.mp) (hR : ∀ w', Stored w w' ms h its M F rc → R (.returned .nilIface) w') :
    Code.wp Tryz.prog (sT 19) (bodyPost Tryz.prog Tryz.f61 R) ⟨#[.pointer (some ⟨ms, 0, none⟩), str rc.subj, .slice Ah rc.hdr.length ch, .slice Ad rc.dat.length cd, .int .u64 ((h.n + 1 : Nat) : Int), .int .i64 rc.ts, .int .i64 0, .bool true, u8, u9, u10, u11, u12, u13, u14, u15, .nilIface, .pointer (some ⟨b0, 0, none⟩), u18, u19, u20, u21, u22, u23, u24, u25, u26, u27, u28, u29, u30, u31, u32, u33, u34, u35, u36, u37, u38, u39, u40, u41, u42, u43, u44, u45, u46, u47, u48, u49, u50, u51, u52, u53, u54, u55, u56, u57, u58, u59, u60, u61, u62, u63, u64, u65, u66, u67, u68, u69, u70, u71, u72, u73, u74, u75, u76, u77, u78, u79, u80, u81, u82, u83, u84, u85, u86, u87, u88, u89, u90, u91, u92, u93, u94, u95, u96, u97, u98, u99, u100, u101, u102, u103, u104, u105, u106, u107, u108, u109, u110, u111, u112, u113, u114, u115, u116, u117, u118, u119, u120, u121, u122, u123, u124, u125, u126, u127, u128, u129, u130, u131, u132, u133, u134, u135, u136, u137, u138, u139, u140, u141, u142, u143, u144, u145, u146, u147, u148, u149, u150, u151, u152, u153, u154, u155, u156, u157, u158, u159, u160, u161, u162, u163, u164, u165, u166, u167, u168, u169, u170, u171, u172, u173, u174, u175, u176, u177, u178, u179, u180, u181, u182, u183, u184, u185, u186, u187, u188, u189, u190, u191, u192, u193, u194, u195, u196, u197, u198, u199, u200, u201, u202, u203, u204, u205, u206, u207, u208, u209, u210, u211, u212, u213, u214, u215, u216, u217, u218, u219, u220, u221, u222, u223, u224, u225, u226, u227, u228, u229, u230, u231, u232, u233, u234, u235, u236, u237, u238, u239, u240, u241, u242, u243, u244, u245, u246, u247, u248, u249, u250, u251, u252, u253, u254, u255, u256, u257, u258, u259, u260, u261, u262, u263, u264, u265, u266, u267, u268, u269, u270, u271, u272, u273, u274, u275, u276, u277, u278, u279, u280, u281, u282, u283, u284, u285, u286, u287, u288, u289, u290, u291, u292, u293, u294, u295, u296, u297, u298, u299, u300, u301, u302, u303, u304, u305, u306, u307, u308, u309, u310, u311, u312, u313, u314, u315, u316, u317, u318, u319, u320, u321, u322, u323, u324, u325, u326, u327, u328, u329, u330, u331, u332, u333, u334, u335, u336, u337, u338, u339, u340, u341, u342, u343, u344, u345, u346, u347, u348, u349, u350, u351, u352, u353, u354, u355, u356, u357, u358, u359, u360, u361, u362], []⟩ wx := by
  have hlen : (0 : Int) < rc.subj.length := by have := List.length_pos_iff.2 hok.s0; omega
  have hlb : ByteArray.size ⟨rc.subj.toArray⟩ = rc.subj.length := by simp [ByteArray.size]
  have hkF : ∀ k, (k = ms ∨ k = h.r) → k ∉ F := fun k hx hF => hx.elim (fun e => S.dis1.1 (e ▸ hF)) (fun e => S.dis1.2 (e ▸ hF))
  obtain ⟨hbF, C, hbw, hz⟩ := S.tree.mem _ hM
  have hb := m.keep.blk hbw (fun hx => hkF _ hx hbF)
  obtain ⟨fs, ls, fn, _, _, _, _, _, s0, s1, s2, s3, s4⟩ := (S.sub _ hM).keep m.keep (fun hx => hkF _ hx hbF)
  have hL30 : (seqs its rc.subj).length ≤ 30 := by have h1 := S.len; have h2 : (seqs its rc.subj).length ≤ its.length := by unfold seqs; rw [List.length_map]; exact List.length_filter_le _ _
                                                   omega
  have HB := Lib.hid hb
  have c31 : wx.cell? ⟨ms, 31, none⟩ = some (.int .i64 (h.mp : Int)) := by rw [m.hd.cell, ← m.next.mp]; rfl
  have hbne : ms ≠ b0 := fun e => S.dis1.1 (e ▸ hbF)
  simp only at s0 s1 s2 s3 s4
  have f0 := hb.frozen 0
  have f2 := hb.frozen 2
  have f4 := hb.frozen 4
  simp only at f0 f2 f4
  have hfin : ∀ q, Calls Tryz.prog 83 #[.pointer (some ⟨ms, 0, none⟩), str rc.subj, .pointer (some ⟨b0, 0, none⟩)] ((((wx.setCell ⟨b0, 0, none⟩ (.int .u64 (((seqs its rc.subj).length + 1 : Nat) : Int))).setCell ⟨b0, 2, none⟩ (.int .u64 ((h.n + 1 : Nat) : Int))).setCell ⟨b0, 4, none⟩ (.bool false)).drewN q)
      fun e w' => e = .returned (.tuple #[]) ∧ ∃ h' : Hd, Blk w' ms 87 h'.cells ∧ ((h'.disc = 0 ∧ h'.mm = 0) ∨ h'.disc = 1) ∧ ∀ q', R (.returned .nilIface) (w'.drewN q') := by
    intro q
    have hb3 := ((HB.out.set_ 0 (.int .u64 (((seqs its rc.subj).length + 1 : Nat) : Int))).set_ 2 (.int .u64 ((h.n + 1 : Nat) : Int))).set_ 4 (.bool false)
    have hk3 := (((keep1 wx b0 0 (.int .u64 (((seqs its rc.subj).length + 1 : Nat) : Int))).put rfl 2 (.int .u64 ((h.n + 1 : Nat) : Int))).put rfl 4 (.bool false)).drewN q
    have hS := m.found S hok hn hM hk3 HB.out hb3 (by simp) (by simp [hz]) (by simp) (by simp [hz]) (by simp) (by simp [hz]) (by simp)
    have hK := m.keepM.trans hk3 (fun k _ hx => .inr (.inr (.inr (.inl (hx ▸ hbF)))))
    obtain ⟨q2, l, q3, q4, q5⟩ := lim_next hS m.next hl h0
    refine (enforce_any hS (s := rc.subj) (b := b0) (by rw [seqs_app, if_pos rfl, List.length_append, m.next.mp, hw]; rfl) hM (by rw [m.next.mp]; exact h0) q2 q3 q4 q5).mono ?_
    rintro e w' ⟨rfl, A, i, B, e1, e2, hA, hr⟩
    have hst := fun q' => (hr.drewN q').stored hS m.next hl h0 hw e1 e2 hA hK
    obtain ⟨h', l', hS', _, hle, _⟩ := hr
    exact ⟨rfl, h', hS'.hd, by rw [hle.disc, hle.mm]; exact hS.disc.imp id (fun h => h.1), fun q' => hR _ (hst q')⟩
  have HFIN := Lib.hid hfin
  have hw2 : (h.mp : Int) < ((seqs its rc.subj).length : Int) + 1 := by omega
  clear hfin hR hb hbw hw
  generalize (seqs its rc.subj).length = L at *
  have hpos : (0 : Int) < (h.mp : Int) := by omega
  have hmp := S.mpb
  refine wp_seq_of (show sT 19 = .seq (sH 19) (sT 20) from rfl) fun K hK => ?_
  conv => arg 2; whnf
  go_wp2_with fail
  go_quiet (fail)
  go_wp2_with fail
  refine (HFIN.out _).mono ?_
  rintro e w' ⟨rfl, h', hb', hd', hR'⟩
  have H' := Lib.hid (And.intro hb' (And.intro hd' hR'))
  clear hb' hd' hR'
  go_wp2_with fail
  exact st20 H'.out.1 H'.out.2.1 H'.out.2.2


theorem storeRaw1 (w : World) (ms : Nat) (h : Hd) (its : List Item) (M : List Ent) (F : List Nat) (rc : Rec) (Ah Ad : Option Addr) (ch cd : Nat) (S : StoreAt w ms h its M F) (hok : rc.Ok) (hn : h.n < 30) (hl : Lim h its)
    (hh : RowAt w 1 Ah rc.hdr.length (rc.hdr.map byteV)) (hdt : RowAt w 1 Ad rc.dat.length (rc.dat.map byteV)) (hnr : ∀ k, blkOf Ah k ∨ blkOf Ad k → ¬ Mut ms h F k) (t5 : TypeId) (v5 : Value) (g5 : w.cell? ⟨5, 0, none⟩ = some (.iface t5 v5)) :
    Calls Tryz.prog 61 #[.pointer (some ⟨ms, 0, none⟩), str rc.subj, .slice Ah rc.hdr.length ch, .slice Ad rc.dat.length cd, .int .u64 0, .int .i64 rc.ts, .int .i64 0, .bool true] w (SPost w ms h its M F rc) := by
  refine storeRaw_of w ms h its M F rc Ah Ad ch cd S hok hn hh hdt hnr t5 v5 g5 ?_
  intro s17 hrej hg wy
  intros
  rename_i h2 b m
  rcases hg with ⟨b0, hM, rfl⟩ | ⟨hM, rfl⟩
  · rcases Nat.eq_zero_or_pos h.mp with h0 | h0
    · exact st19z m S hok hn hl hM h0 (.inl h0) (fun w' hs => .inr ⟨hrej, rfl, hs⟩)
    · by_cases hw : (seqs its rc.subj).length + 1 ≤ h.mp
      · exact st19p m S hok hn hl hM h0 (.inr hw) (fun w' hs => .inr ⟨hrej, rfl, hs⟩)
      · exact st19o m S hok hn hl hM h0 (by have := (hl h0).1 rc.subj; omega) (fun w' hs => .inr ⟨hrej, rfl, hs⟩)
  · exact st19n m S hok hn hl hM (fun w' hs => .inr ⟨hrej, rfl, hs⟩)

end Go.Proofs.YtmblkpjnafgplaaGreatDoor
