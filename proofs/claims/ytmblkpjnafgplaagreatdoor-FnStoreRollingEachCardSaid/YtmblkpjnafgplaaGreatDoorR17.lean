/- LoadMsg, at a session's store. deed: a message stored. State, where nothing was taken out. -/
import Derived.Test.YtmblkpjnafgplaaGreatDoorR13
import Derived.Lib.TrailingZeros
import Derived.Test.YtmblkpjnafgplaaGreatDoorR15
import Derived.Test.YtmblkpjnafgplaaGreatDoorR11
import Derived.Test.YtmblkpjnafgplaaGreatDoorR16
import Derived.Deep.RegionHeld3
import Derived.Deep.DeepCutAuto
import Derived.Defers
import Derived.Conc.RwLoneW
namespace Go.Proofs.YtmblkpjnafgplaaGreatDoor
open Go Go.RowKit
set_option maxRecDepth 100000
set_option linter.unusedVariables false
set_option linter.unusedSimpArgs false

set_option maxHeartbeats 2000000 in
theorem load_no (w : World) (ms : Nat) (h : Hd) (its : List Item) (M : List Ent) (F : List Nat) (k : Nat) (S : StoreAt w ms h its M F) (h4 : h.l4 = 0) (hi : ∀ i ∈ its, i.seq ≠ k)
    (t2 : TypeId) (v2 : Value) (g2 : w.cell? ⟨2, 0, none⟩ = some (.iface t2 v2)) (t3 : TypeId) (v3 : Value) (g3 : w.cell? ⟨3, 0, none⟩ = some (.iface t3 v3)) (hm : 3 < ms) :
    Calls Tryz.prog 85 #[.pointer (some ⟨ms, 0, none⟩), .int .u64 (k : Int), .pointer none, .bool true] w fun e w' => (∃ t v, e = .returned (.tuple #[.pointer none, .iface t v])) ∧ StoreAt w' ms h its M F ∧ Keep (fun k => k = ms) w w' := by
  have HS := Lib.hid S
  have hl := hd_rlock S.hd h4
  have hm3 : 3 < ms := hm
  clear S
  go_enter Tryz.func85, Tryz.ntmps85
  go_wp2_with fail
  refine hl.mono ?_
  rintro e w1 ⟨rfl, hb1, hk1⟩
  have S1 := HS.out.rl hk1 hb1
  have c25 : w1.cell? ⟨ms, 25, none⟩ = some (.map (some h.r)) := by rw [hb1.cell]; rfl
  have c18 : w1.cell? ⟨ms, 18, none⟩ = some (.int .u64 (h.n : Int)) := by rw [hb1.cell]; rfl
  have hmap := S1.mapA
  have hnk : ∀ x ∈ its.map (fun i => (i.seq, i.blk)), x.1 ≠ k := by
    intro x hx
    obtain ⟨i, hi', rfl⟩ := List.mem_map.1 hx
    exact hi i hi'
  have H1 := Lib.hid (And.intro S1 (And.intro hmap (And.intro hnk (And.intro hb1 hk1))))
  clear S1 hmap hnk hb1 hk1 hl
  go_wp2_with (first | (refine wpList_look_no rfl _ _ rfl k rfl rfl H1.out.2.1 H1.out.2.2.1 ?_) | fail)
  refine (hd_runlock H1.out.2.2.2.1 rfl).mono ?_
  rintro e w2 ⟨rfl, hb2, hk2⟩
  have S2 := H1.out.1.turn hk2 hb2 ⟨rfl, rfl, rfl, rfl, rfl, rfl, rfl, rfl, rfl, rfl⟩
  rw [Hd.back h4] at S2
  have hk12 := H1.out.2.2.2.2.trans hk2 (fun _ _ e => e)
  have g2' : w2.cell? ⟨2, 0, none⟩ = some (.iface t2 v2) := hk12.cellS g2 (fun e => by simp only at e; omega)
  have g3' : w2.cell? ⟨3, 0, none⟩ = some (.iface t3 v3) := hk12.cellS g3 (fun e => by simp only at e; omega)
  have H2 := Lib.hid (And.intro S2 hk12)
  clear S2 hk12 hb2 hk2 c25 c18 g2 g3
  by_cases hkn : k ≤ h.n
  · go_wp2_with fail
    go_ret2
    exact ⟨⟨_, _, rfl⟩, H2.out.1, H2.out.2⟩
  · go_wp2_with fail
    go_ret2
    exact ⟨⟨_, _, rfl⟩, H2.out.1, H2.out.2⟩

/-- the table of the lowest bits, in its variable -/
def Tab (w : World) : Prop := ∀ j, j < 64 → w.cell? ⟨13, j, none⟩ = some (.int .u8 (Lib.deBruijn64tab.getD j 0))

/-- the errors' variables hold errors -/
structure Errs (w : World) : Prop where
  lt : 5 < w.heap.size
  e2 : ∃ t v, w.cell? ⟨2, 0, none⟩ = some (.iface t v)
  e3 : ∃ t v, w.cell? ⟨3, 0, none⟩ = some (.iface t v)
  e5 : ∃ t v, w.cell? ⟨5, 0, none⟩ = some (.iface t v)
  tab : Tab w

theorem mem_pairs {its : List Item} {q : Nat} {rc : Rec} : (q, rc) ∈ pairs its ↔ ∃ i ∈ its, i.seq = q ∧ i.rc = rc := by
  simp [pairs, List.mem_map]

/-- LoadMsg of a number -/
theorem ses_load {w0 w : World} {ms : Nat} {a : Ab} (s : Ses w0 w ms a) (er : Errs w0) (k : Nat) :
    Calls Tryz.prog 37 #[.pointer (some ⟨ms, 0, none⟩), .int .u64 (k : Int), .pointer none] w fun e w' => Ses w0 w' ms a ∧ Keep (fun k => k = ms) w w' ∧
      ((∃ rc d N, (k, rc) ∈ a.l ∧ e = .returned (.tuple #[.pointer (some ⟨d, 0, none⟩), .nilIface]) ∧ MsgAt w' N ⟨k, d, rc⟩ ∧ rc.Ok) ∨ ((∀ rc, (k, rc) ∉ a.l) ∧ ∃ t v, e = .returned (.tuple #[.pointer none, .iface t v]))) := by
  obtain ⟨h, its, M, F, S, hl, a1, a2, a3, a4, a5, a6, a7, a8, a9⟩ := s
  have hms : w0.heap.size ≤ ms := a8 ms (.inl rfl)
  have hlt := er.lt
  have back : ∀ w', StoreAt w' ms h its M F → Keep (fun k => k = ms) w w' → Ses w0 w' ms a ∧ Keep (fun k => k = ms) w w' :=
    fun w' S' hk' => ⟨⟨h, its, M, F, S', hl, a1, a2, a3, a4, a5, a6, a7, a8, a9.own hk' (fun k e => by omega)⟩, hk'⟩
  by_cases hi : ∃ i ∈ its, i.seq = k
  · obtain ⟨i, hi, rfl⟩ := hi
    have hload := load_yes w ms h its M F i S a2 hi
    have HH := Lib.hid (And.intro hload (And.intro back (And.intro (S.ok i hi) (show (i.seq, i.rc) ∈ a.l by rw [← a7]; exact mem_pairs.2 ⟨i, hi, rfl, rfl⟩))))
    clear hload back S hl a1 a2 a3 a4 a5 a6 a7 a8 a9
    go_enter Tryz.func37, Tryz.ntmps37
    go_wp2_with fail
    refine HH.out.1.mono ?_
    rintro e w1 ⟨d, rfl, hm, S', hk⟩
    have H1 := Lib.hid (And.intro hm (And.intro S' hk))
    clear hm S' hk
    go_wp2_with fail
    go_ret2
    obtain ⟨_, back, hok, hmem⟩ := HH.out
    obtain ⟨hm, S', hk⟩ := H1.out
    obtain ⟨b1, b2⟩ := back _ S' hk
    exact ⟨b1, b2, .inl ⟨i.rc, d, _, hmem, rfl, hm, hok⟩⟩
  · obtain ⟨t2, v2, g2⟩ := er.e2
    obtain ⟨t3, v3, g3⟩ := er.e3
    have hload := load_no w ms h its M F k S a2 (fun i hi' e => hi ⟨i, hi', e⟩) t2 v2 (a9.cellS g2 (fun h => h)) t3 v3 (a9.cellS g3 (fun h => h)) (by omega)
    have hmem : ∀ rc, (k, rc) ∉ a.l := fun rc hx => by
      rw [← a7] at hx
      obtain ⟨i, hi', e, _⟩ := mem_pairs.1 hx
      exact hi ⟨i, hi', e⟩
    have HH := Lib.hid (And.intro hload (And.intro back hmem))
    clear hload back S hl a1 a2 a3 a4 a5 a6 a7 a8 a9 hmem g2 g3 hi
    go_enter Tryz.func37, Tryz.ntmps37
    go_wp2_with fail
    refine HH.out.1.mono ?_
    rintro e w1 ⟨⟨t, v, rfl⟩, S', hk⟩
    have H1 := Lib.hid (And.intro S' hk)
    clear S' hk
    go_wp2_with fail
    go_ret2
    obtain ⟨_, back, hmem⟩ := HH.out
    obtain ⟨S', hk⟩ := H1.out
    obtain ⟨b1, b2⟩ := back _ S' hk
    exact ⟨b1, b2, .inr ⟨hmem, t, v, rfl⟩⟩

set_option maxHeartbeats 1000000 in
/-- message, where there is none -/
theorem message_nil (w : World) :
    Calls Tryz.prog 56 #[.pointer none] w fun e w' => e = .returned (.agg #[str [], .slice none 0 0, .slice none 0 0, .int .u64 0, .int .i64 0]) ∧ Keep NoB w w' := by
  go_enter Tryz.func56, Tryz.ntmps56
  go_wp2_with fail
  exact bodyPost_ret (v := .agg #[str [], .slice none 0 0, .slice none 0 0, .int .u64 0, .int .i64 0]) (by simp [results, Tryz.results56, go_sem]) rfl ⟨rfl, (Keep.refl NoB w).alloc _⟩

end Go.Proofs.YtmblkpjnafgplaaGreatDoor

namespace Go.Proofs.YtmblkpjnafgplaaGreatDoor
open Go Go.RowKit
set_option maxRecDepth 100000
set_option linter.unusedVariables false
set_option linter.unusedSimpArgs false

/-- a step of a script, as values -/
structure StepV where
  op : Int
  subj : Bs
  hA : Option Addr
  hdr : Bs
  hc : Nat
  dA : Option Addr
  dat : Bs
  dc : Nat
  t : Int
  seq : Int
  num : Int
  kp : Int
  last : Bool
  sA : Option Addr
  sn : Nat
  sc : Nat
  c0 : Int
  c1 : Int
  c2 : Int
  c3 : Bool
  c4 : Bool
  c5 : Int

/-- as one value -/
abbrev StepV.val (s : StepV) : Value := .agg #[.int .i64 s.op, str s.subj, .slice s.hA s.hdr.length s.hc, .slice s.dA s.dat.length s.dc, .int .i64 s.t, .int .u64 s.seq, .int .u64 s.num, .int .u64 s.kp, .bool s.last, .slice s.sA s.sn s.sc, .int .i64 s.c0, .int .i64 s.c1, .int .i64 s.c2, .bool s.c3, .bool s.c4, .int .u64 s.c5]
/-- as cells -/
abbrev StepV.cells (s : StepV) : List Value := [.int .i64 s.op, str s.subj, .slice s.hA s.hdr.length s.hc, .slice s.dA s.dat.length s.dc, .int .i64 s.t, .int .u64 s.seq, .int .u64 s.num, .int .u64 s.kp, .bool s.last, .slice s.sA s.sn s.sc, .int .i64 s.c0, .int .i64 s.c1, .int .i64 s.c2, .bool s.c3, .bool s.c4, .int .u64 s.c5]
/-- the message that it stores -/
abbrev StepV.rc (s : StepV) : Rec := ⟨s.subj, s.hdr, s.dat, s.t⟩

/-- what a step answers, as values -/
structure TellV where
  k : Int
  num : Int
  m0 : Value
  m1 : Value
  m2 : Value
  m3 : Value
  m4 : Value
  s0 : Value
  s1 : Value
  s2 : Value
  s3 : Value
  s4 : Value
  s5 : Value
  s6 : Value
  s7 : Value
  s8 : Value
  s9 : Value
abbrev TellV.val (t : TellV) : Value := .agg #[.int .i64 t.k, .bool false, .int .u64 t.num, .int .u64 0, t.m0, t.m1, t.m2, t.m3, t.m4, .slice none 0 0, .slice none 0 0, t.s0, t.s1, t.s2, t.s3, t.s4, t.s5, t.s6, t.s7, t.s8, t.s9, str []]
abbrev TellV.cells (t : TellV) : List Value := [.int .i64 t.k, .bool false, .int .u64 t.num, .int .u64 0, t.m0, t.m1, t.m2, t.m3, t.m4, .slice none 0 0, .slice none 0 0, t.s0, t.s1, t.s2, t.s3, t.s4, t.s5, t.s6, t.s7, t.s8, t.s9, str []]

/-- FastState, at a session's store -/
theorem ses_fast {w0 w wx : World} {ms x : Nat} {a : Ab} (s : Ses w0 w ms a) (hk : Keep NoB w wx) (hx : Blk wx x 80 zSt) (hxl : w.heap.size ≤ x) :
    Calls Tryz.prog 26 #[.pointer (some ⟨ms, 0, none⟩), .pointer (some ⟨x, 0, none⟩)] wx fun e w' => e = .returned (.tuple #[]) ∧ (∃ n, w'.cell? ⟨x, 4, none⟩ = some (.int .u64 n)) ∧ Ses w0 w' ms a ∧ Keep (fun k => k = ms ∨ k = x) wx w' := by
  obtain ⟨h, its, M, F, S, hl, a1, a2, a3, a4, a5, a6, a7, a8, a9⟩ := s
  have Sx := S.keep hk (fun _ _ h => h)
  have hne : x ≠ ms := fun e => by have := S.hd.lt; omega
  have hM : ∀ k, Mut ms h F k → k ≠ x := fun k hm e => by have := S.mut_lt k hm; omega
  refine (fast_any wx ms x h its M F Sx a2 hx hne).mono ?_
  rintro e w' ⟨rfl, ⟨C, n, hC, hC4⟩, hk', hb⟩
  refine ⟨rfl, ⟨n, by rw [hC.cell]; exact hC4⟩, ?_, hk'⟩
  have S' : StoreAt w' ms h its M F := by
    obtain ⟨d1, d2, d3⟩ := Sx.dis2
    have hr : ¬ (h.r = ms ∨ h.r = x) := fun e => e.elim (fun e => d1 e.symm) (hM _ (.inr (.inl rfl)))
    have htb : ¬ (h.tb = ms ∨ h.tb = x) := fun e => e.elim (fun e => d2 e.symm) (hM _ (.inr (.inr (.inl rfl))))
    have hF : ∀ k ∈ F, ¬ (k = ms ∨ k = x) := fun k hk e => e.elim (fun e => Sx.dis1.1 (e ▸ hk)) (hM _ (.inr (.inr (.inr (.inl hk)))))
    refine { Sx with hd := hb, mapA := Sx.mapA.keep hk' hr, msg := ?_, tree := Sx.tree.keep hk' htb hF, sub := fun e he => (Sx.sub e he).keep hk' (hF _ (Sx.tree.mem e he).1), dm := ?_ }
    · intro i hi
      obtain ⟨A1, c1, A2, c2, A3, c3, hb1, hn1, r1, r2, r3, l1, l2, l3, hbk, hb5⟩ := S.msg i hi
      refine MsgAt.keep (N := fun k => Mut ms h F k ∨ k = x) (G := fun k => k = ms ∨ k = x) ?_ hk' (fun k _ e => e.imp .inl id) (fun k _ h => .inl h)
      have k1 : Keep NoB w wx := hk
      exact ⟨A1, c1, A2, c2, A3, c3, k1.blk hb1 (fun h => h), fun e => e.elim hn1 (fun e => by have := hb1.lt; omega), r1.keep k1 (fun _ _ _ h => h), r2.keep k1 (fun _ _ _ h => h), r3.keep k1 (fun _ _ _ h => h), l1, l2, l3,
        fun k hk => ⟨Nat.lt_of_lt_of_le (hbk k hk).1 k1.size, fun e => e.elim (hbk k hk).2 (fun e => by have := (hbk k hk).1; omega)⟩, fun k hk => by obtain ⟨cs, h5⟩ := hb5 k hk; exact ⟨cs, k1.blk h5 (fun h => h)⟩⟩
    · rcases Sx.dm with hd | ⟨nb, B, h1, h2, h3⟩
      · exact .inl hd
      · exact .inr ⟨nb, B, h1, hk'.blk h2 (fun e => e.elim (Sx.dis3 nb h1).1 (hM nb (.inr (.inr (.inr (.inr h1)))))), h3⟩
  exact ⟨h, its, M, F, S', hl, a1, a2, a3, a4, a5, a6, a7, a8, (a9.none_trans hk).own hk' (fun k e => e.elim (fun e => by rw [e]; exact a8 ms (.inl rfl)) (fun e => by have := a9.size; omega))⟩

/-- what a message stored answers -/
abbrev dTell (k num : Int) : TellV := ⟨k, num, str [], .slice none 0 0, .slice none 0 0, .int .u64 0, .int .i64 0, .int .u64 0, .int .u64 0, .int .u64 0, .int .u64 0, .int .i64 0, .int .i64 0, .int .i64 0, .int .i64 0, .slice none 0 0, .int .u64 0⟩

abbrev zTell : Array Value := #[.int .i64 0, .bool false, .int .u64 0, .int .u64 0, str [], .slice none 0 0, .slice none 0 0, .int .u64 0, .int .i64 0, .slice none 0 0, .slice none 0 0, .int .u64 0, .int .u64 0, .int .u64 0, .int .u64 0, .int .i64 0, .int .i64 0, .int .i64 0, .int .i64 0, .slice none 0 0, .int .u64 0, str []]

/-- what a deed may turn: none of what was told -/
def OwnB (w : World) (k : Nat) : Prop := k < w.heap.size ∧ ∀ C, ¬ Blk w k 42 C

/-- behind StoreRawMsg, in deed -/
def DeedCut (w0 w : World) (ms : Nat) (a : Ab) (rc : Rec) (v : Value) (wx : World) : Prop :=
  ((a.full ∧ ∃ t u, v = .iface t u) ∨ (¬ a.full ∧ v = .nilIface)) ∧ Ses w0 wx ms (a.put rc) ∧ Blk wx (w.heap.size + 1) 42 zTell ∧ Blk wx (w.heap.size + 2) 42 zTell ∧ Keep (OwnB w) w wx

/-- a told value copied into its result's block -/
theorem tell_tail {w0 wc W : World} {ms : Nat} {a : Ab} {b4 b5 : Nat} {C : Array Value} (k num : Int) (h4 : Blk wc b4 42 zTell) (h5 : Blk W b5 42 C) (hk : Keep (fun k => k = b5) wc W) (hs : Ses w0 wc ms a) (hne : b4 ≠ b5) (hb4 : w0.heap.size ≤ b4) (hb5 : w0.heap.size ≤ b5)
    (h50 : Blk wc b5 42 zTell) (hC : C = (dTell k num).cells.toArray := by rfl) :
    W.rangeAt b5 0 (dTell k num).cells ∧ W.there b4 0 22 ∧ (dTell k num).cells.toArray.all (·.oneCell') = true ∧ Blk (W.setCells b4 0 (dTell k num).cells) b4 42 (dTell k num).cells.toArray ∧ Ses w0 (W.setCells b4 0 (dTell k num).cells) ms a ∧ Keep (fun k => k = b4 ∨ k = b5) wc (W.setCells b4 0 (dTell k num).cells) := by
  subst hC
  have h4' := hk.blk h4 hne
  have hf : ∀ b, Blk wc b 42 zTell → Foreign wc b := fun b hb => ⟨42, zTell, hb, .inl rfl, fun j x => by
    rw [← Array.getElem?_toList]
    intro hx
    have hm := List.mem_of_getElem? hx
    simp [byteV] at hm⟩
  have hK : Keep (fun k => k = b4 ∨ k = b5) wc (W.setCells b4 0 (dTell k num).cells) := Keep.setCells (fun _ => .inl rfl) _ 0 _ (hk.mono (fun k _ e => .inr e))
  refine ⟨h5.rangeAt, h4'.there, all_oneCell_toArray (by simp [Value.oneCell']), h4'.setCells_whole _ rfl, ?_, hK⟩
  refine hs.far (G := fun k => k = b4 ∨ k = b5) hK (fun k _ e => ?_) (fun k e => ?_)
  · rcases e with rfl | rfl
    · exact (hf _ h4).other
    · exact (hf _ h50).other
  · rcases e with rfl | rfl
    · exact hb4
    · exact hb5

set_option maxHeartbeats 4000000 in
theorem deed_any {P : Nat → Prop} (hraw : RawLaw P) {w0 w : World} {ms : Nat} {a : Ab} (s : Ses w0 w ms a) (er : Errs w0) (hP : P a.mp) (sv : StepV) (h0 : sv.op = 0) (hok : sv.rc.Ok) (hn : a.n < 30)
    (hh : RowAt w 1 sv.hA sv.hdr.length (sv.hdr.map byteV)) (hdt : RowAt w 1 sv.dA sv.dat.length (sv.dat.map byteV)) :
    Calls Tryz.prog 17 #[.pointer (some ⟨ms, 0, none⟩), sv.val] w fun e w' => ∃ k num, e = .returned (dTell k num).val ∧ (k = if a.full then 1 else 0) ∧ Ses w0 w' ms (a.put sv.rc) ∧ Keep (OwnB w) w w' := by
  obtain ⟨op, subj, hA, hdr, hc, dA, dat, dc, t, seq, num, kp, last, sA, sn, sc, q0, q1, q2, q3, q4, q5⟩ := sv
  simp only at h0 hh hdt
  subst h0
  have HS := Lib.hid (And.intro s (And.intro er (And.intro hh hdt)))
  clear s er hh hdt
  go_enter Tryz.func17, Tryz.ntmps17
  go_wp2_with fail
  have hkW := (((Keep.refl NoB w).alloc (.cells #[.int .i64 0, str subj, .slice hA hdr.length hc, .slice dA dat.length dc, .int .i64 t, .int .u64 seq, .int .u64 num, .int .u64 kp, .bool last, .slice sA sn sc, .int .i64 q0, .int .i64 q1, .int .i64 q2, .bool q3, .bool q4, .int .u64 q5] 46)).alloc (.cells zTell 42)).alloc (.cells zTell 42)
  have hW1 := ((Blk.new w 46 #[.int .i64 0, str subj, .slice hA hdr.length hc, .slice dA dat.length dc, .int .i64 t, .int .u64 seq, .int .u64 num, .int .u64 kp, .bool last, .slice sA sn sc, .int .i64 q0, .int .i64 q1, .int .i64 q2, .bool q3, .bool q4, .int .u64 q5]).alloc (.cells zTell 42)).alloc (.cells zTell 42)
  have hW2 := (Blk.new (w.alloc (.cells #[.int .i64 0, str subj, .slice hA hdr.length hc, .slice dA dat.length dc, .int .i64 t, .int .u64 seq, .int .u64 num, .int .u64 kp, .bool last, .slice sA sn sc, .int .i64 q0, .int .i64 q1, .int .i64 q2, .bool q3, .bool q4, .int .u64 q5] 46)) 42 zTell).alloc (.cells zTell 42)
  have hW3 := Blk.new ((w.alloc (.cells #[.int .i64 0, str subj, .slice hA hdr.length hc, .slice dA dat.length dc, .int .i64 t, .int .u64 seq, .int .u64 num, .int .u64 kp, .bool last, .slice sA sn sc, .int .i64 q0, .int .i64 q1, .int .i64 q2, .bool q3, .bool q4, .int .u64 q5] 46)).alloc (.cells zTell 42)) 42 zTell
  have e2 : (w.alloc (.cells #[.int .i64 0, str subj, .slice hA hdr.length hc, .slice dA dat.length dc, .int .i64 t, .int .u64 seq, .int .u64 num, .int .u64 kp, .bool last, .slice sA sn sc, .int .i64 q0, .int .i64 q1, .int .i64 q2, .bool q3, .bool q4, .int .u64 q5] 46)).heap.size = w.heap.size + 1 := by simp
  have e3 : ((w.alloc (.cells #[.int .i64 0, str subj, .slice hA hdr.length hc, .slice dA dat.length dc, .int .i64 t, .int .u64 seq, .int .u64 num, .int .u64 kp, .bool last, .slice sA sn sc, .int .i64 q0, .int .i64 q1, .int .i64 q2, .bool q3, .bool q4, .int .u64 q5] 46)).alloc (.cells zTell 42)).heap.size = w.heap.size + 2 := by simp
  rw [e2] at hW2
  rw [e3] at hW3
  clear e2 e3
  generalize ((w.alloc (.cells #[.int .i64 0, str subj, .slice hA hdr.length hc, .slice dA dat.length dc, .int .i64 t, .int .u64 seq, .int .u64 num, .int .u64 kp, .bool last, .slice sA sn sc, .int .i64 q0, .int .i64 q1, .int .i64 q2, .bool q3, .bool q4, .int .u64 q5] 46)).alloc (.cells zTell 42)).alloc (.cells zTell 42) = W at hkW hW1 hW2 hW3 ⊢
  have x1 : W.cell? ⟨w.heap.size, 1, none⟩ = some (str subj) := by rw [hW1.cell]; rfl
  have x2 : W.cell? ⟨w.heap.size, 2, none⟩ = some (.slice hA hdr.length hc) := by rw [hW1.cell]; rfl
  have x3 : W.cell? ⟨w.heap.size, 3, none⟩ = some (.slice dA dat.length dc) := by rw [hW1.cell]; rfl
  have x4 : W.cell? ⟨w.heap.size, 4, none⟩ = some (.int .i64 t) := by rw [hW1.cell]; rfl
  have step : ∀ (W6 : World) (Ah Ad : Option Addr) (ch cd : Nat), Keep NoB W W6 → RowAt W6 1 Ah hdr.length (hdr.map byteV) → RowAt W6 1 Ad dat.length (dat.map byteV) → (∀ k, blkOf Ah k ∨ blkOf Ad k → W.heap.size ≤ k) →
      Calls Tryz.prog 24 #[.pointer (some ⟨ms, 0, none⟩), str subj, .slice Ah hdr.length ch, .slice Ad dat.length cd, .int .u64 0, .int .i64 t, .int .i64 0, .bool true] W6 fun e w' => ∃ v, e = .returned v ∧ DeedCut w0 w ms a ⟨subj, hdr, dat, t⟩ v w' ∧ w'.cell? ⟨w.heap.size, 1, none⟩ = some (str subj) ∧ w'.cell? ⟨w.heap.size, 2, none⟩ = some (.slice hA hdr.length hc) ∧ w'.cell? ⟨w.heap.size, 3, none⟩ = some (.slice dA dat.length dc) ∧ w'.cell? ⟨w.heap.size, 4, none⟩ = some (.int .i64 t) := by
    intro W6 Ah Ad ch cd hk6 r1 r2 hnr
    obtain ⟨s, er, _, _⟩ := HS.out
    have hz := hkW.size
    refine (ses_store hraw s (hkW.none_trans hk6) hP ⟨subj, hdr, dat, t⟩ hok hn Ah Ad ch cd r1 r2 (fun k hk => Nat.le_trans hz (hnr k hk)) er.lt er.e5).mono ?_
    rintro e w' ⟨he, s', hk'⟩
    have z2 := hk'.blk (hk6.blk hW2 (fun h => h)) (fun h => by have : w.heap.size + 1 < w.heap.size := h.1; omega)
    have z3 := hk'.blk (hk6.blk hW3 (fun h => h)) (fun h => by have : w.heap.size + 2 < w.heap.size := h.1; omega)
    have z1 := hk'.blk (hk6.blk hW1 (fun h => h)) (fun h => by have : w.heap.size < w.heap.size := h.1; omega)
    have zc : w'.cell? ⟨w.heap.size, 1, none⟩ = some (str subj) ∧ w'.cell? ⟨w.heap.size, 2, none⟩ = some (.slice hA hdr.length hc) ∧ w'.cell? ⟨w.heap.size, 3, none⟩ = some (.slice dA dat.length dc) ∧ w'.cell? ⟨w.heap.size, 4, none⟩ = some (.int .i64 t) :=
      ⟨by rw [z1.cell]; rfl, by rw [z1.cell]; rfl, by rw [z1.cell]; rfl, by rw [z1.cell]; rfl⟩
    have zk : Keep (OwnB w) w w' := (hkW.none_trans hk6).none_trans' hk'
    rcases he with ⟨hf, t', v', rfl⟩ | ⟨hf, rfl⟩
    · exact ⟨_, rfl, ⟨.inl ⟨hf, t', v', rfl⟩, s', z2, z3, zk⟩, zc⟩
    · exact ⟨_, rfl, ⟨.inr ⟨hf, rfl⟩, s', z2, z3, zk⟩, zc⟩
  have ST := Lib.hid step
  have R1 := Lib.hid (HS.out.2.2.1.keep hkW (fun _ _ _ h => h))
  have R2 := Lib.hid (HS.out.2.2.2.keep hkW (fun _ _ _ h => h))
  have KD := Lib.hid ((Keep.refl NoB W).drew)
  have l1 := hok.h1
  have l2 := hok.d1
  simp only at l1 l2
  have L := Lib.hid (show hdr.length ≤ 140737488355328 ∧ dat.length ≤ 140737488355328 from ⟨by omega, by omega⟩)
  clear step hW1 hW2 hW3 l1 l2
  go_cut [6] (fun v wx => DeedCut w0 w ms a ⟨subj, hdr, dat, t⟩ v wx)
  case first =>
    go_region_held3 (fun w' => w'.cell? ⟨w.heap.size, 1, none⟩ = some (str subj) ∧ w'.cell? ⟨w.heap.size, 2, none⟩ = some (.slice hA hdr.length hc) ∧ w'.cell? ⟨w.heap.size, 3, none⟩ = some (.slice dA dat.length dc) ∧ w'.cell? ⟨w.heap.size, 4, none⟩ = some (.int .i64 t))
      (first
        | exact ⟨x1, x2, x3, x4⟩
        | exact hS7
        | exact ⟨hk6.cellS (hk5.cellS x1 (fun h => h)) (fun h => h), hk6.cellS (hk5.cellS x2 (fun h => h)) (fun h => h), hk6.cellS (hk5.cellS x3 (fun h => h)) (fun h => h), hk6.cellS (hk5.cellS x4 (fun h => h)) (fun h => h)⟩
        | exact ⟨hk5.cellS x1 (fun h => h), hk5.cellS x2 (fun h => h), hk5.cellS x3 (fun h => h), hk5.cellS x4 (fun h => h)⟩)
      (first
        | ((with_reducible refine (ST.out _ _ _ _ _ (KD.out.none_trans (hk5.none_trans hk6)) (rh.keep hk6 (fun _ _ _ h => h)) rd ?_).mono ?_); (· intro k hk; have h5 := hk5.size; have h0 := bh k; have h1 := bd k; rcases hk with hk | hk; (· exact (h0 hk).1); (· exact Nat.le_trans h5 (h1 hk).1)); rintro e w7 ⟨v7, rfl, hD, hS7⟩; have HD := Lib.hid hD; clear hD)
        | ((with_reducible refine (copied_any hA hdr.length hc hdr _ (R1.out.keep KD.out (fun _ _ _ h => h)) L.out.1).mono ?_); rintro e w5 ⟨v5, rfl, hv5, hk5⟩; obtain ⟨Ah, ch, rfl, lh, xh, rh, bh⟩ := hv5.row)
        | ((with_reducible refine (copied_any dA dat.length dc dat _ (R2.out.keep (KD.out.none_trans hk5) (fun _ _ _ h => h)) L.out.2).mono ?_); rintro e w6 ⟨v6, rfl, hv6, hk6⟩; obtain ⟨Ad, cd, rfl, ld, xd, rd, bd⟩ := hv6.row))
    all_goals
      go_wp2_with fail
      go_meet
      exact HD.out
  case rest =>
    obtain ⟨hv, hs, hb1, hb2, hko⟩ := hcut
    have HKO := Lib.hid hko
    clear hko
    obtain ⟨hms, hz0⟩ : ms < w.heap.size ∧ w0.heap.size ≤ w.heap.size := by obtain ⟨h, its, M, F, S, _, _, _, _, _, _, _, _, _, k0⟩ := HS.out.1; exact ⟨S.hd.lt, k0.size⟩
    have HMS := Lib.hid (show OwnB w ms from ⟨hms, fun C hb => by obtain ⟨h, its, M, F, S, _⟩ := HS.out.1; exact S.not_mut42 hb (.inl rfl)⟩)
    have hi42 : (Tryz.prog.info? 42).map (·.size) = some 22 := by kernel_rfl
    have hne : w.heap.size + 1 ≠ w.heap.size + 2 := by omega
    clear x1 x2 x3 x4
    rcases hv with ⟨hf, t', v', rfl⟩ | ⟨hf, rfl⟩
    · have c0 : wc.cell? ⟨w.heap.size + 2, 0, none⟩ = some (.int .i64 0) := by rw [hb2.cell]; rfl
      have f0 := hb2.frozen 0
      have TL := Lib.hid (tell_tail 1 0 hb1 (hb2.set_ 0 (.int .i64 1)) (keep1 wc (w.heap.size + 2) 0 (.int .i64 1)) hs hne (by omega) (by omega) hb2)
      clear hs hb1 hb2
      go_wp2_with fail
      refine (one_err t' v' _).mono ?_
      rintro e w8 ⟨rfl, rfl⟩
      go_wp2_with (first | (refine wpList_load_mid rfl 42 (.tmp 5) rfl (w.heap.size + 2) 0 rfl (dTell 1 0).cells _ TL.out.1 Tryz.underlying42 rfl hi42 ?_) | (refine wpList_store_mid rfl 42 (.tmp 4) (.tmp 137) rfl (w.heap.size + 1) 0 (dTell 1 0).cells.toArray rfl rfl TL.out.2.1 hi42 TL.out.2.2.1 ?_) | fail)
      refine bodyPost_ret (v := (dTell 1 0).val) (results_cell rfl _ _ _ (w.heap.size + 1) 0 rfl (dTell 1 0).cells _ TL.out.2.2.2.1.rangeAt Tryz.underlying42 rfl hi42) rfl ?_
      exact ⟨1, ⟨0, rfl⟩, rfl, TL.out.2.2.2.2.1, HKO.out.trans TL.out.2.2.2.2.2 (fun k hk e => by omega)⟩
    · have hnew := Blk.new wc 80 zSt
      have hfast := ses_fast hs ((Keep.refl NoB wc).alloc (.cells zSt 80)) hnew (Nat.le_refl _)
      have hl1 := hb1.lt
      have hl2 := hb2.lt
      have HH := Lib.hid (And.intro hs (And.intro hb1 (And.intro hb2 hfast)))
      clear hs hb1 hb2 hfast hnew
      go_wp2_with fail
      refine HH.out.2.2.2.mono ?_
      rintro e w8 ⟨rfl, ⟨num', hx4⟩, hs8, hk8⟩
      have hb1 : Blk w8 (w.heap.size + 1) 42 zTell := hk8.blk (HH.out.2.1.alloc _) (fun e => by omega)
      have hb2 : Blk w8 (w.heap.size + 2) 42 zTell := hk8.blk (HH.out.2.2.1.alloc _) (fun e => by omega)
      have c2 : w8.cell? ⟨w.heap.size + 2, 2, none⟩ = some (.int .u64 0) := by rw [hb2.cell]; rfl
      have f2 := hb2.frozen 2
      have c0 : w8.cell? ⟨w.heap.size + 2, 0, none⟩ = some (.int .i64 0) := by rw [hb2.cell]; rfl
      have f0 := hb2.frozen 0
      have TL := Lib.hid (tell_tail 0 num' hb1 ((hb2.set_ 2 (.int .u64 num')).set_ 0 (.int .i64 0)) ((keep1 w8 (w.heap.size + 2) 2 (.int .u64 num')).put rfl 0 (.int .i64 0)) hs8 hne (by omega) (by omega) hb2)
      have hk8' : Keep (fun k => k = ms ∨ k = wc.heap.size) wc w8 := ((Keep.refl NoB wc).alloc (.cells zSt 80)).none_trans' hk8
      have HK8 := Lib.hid hk8'
      have hlw := HKO.out.size
      clear hs8 hb1 hb2 hk8 hk8'
      go_wp2_with fail
      refine (one_nil _).mono ?_
      rintro e w9 ⟨rfl, rfl⟩
      go_wp2_with (first | (refine wpList_load_mid rfl 42 (.tmp 5) rfl (w.heap.size + 2) 0 rfl (dTell 0 num').cells _ TL.out.1 Tryz.underlying42 rfl hi42 ?_) | (refine wpList_store_mid rfl 42 (.tmp 4) (.tmp 137) rfl (w.heap.size + 1) 0 (dTell 0 num').cells.toArray rfl rfl TL.out.2.1 hi42 TL.out.2.2.1 ?_) | fail)
      refine bodyPost_ret (v := (dTell 0 num').val) (results_cell rfl _ _ _ (w.heap.size + 1) 0 rfl (dTell 0 num').cells _ TL.out.2.2.2.1.rangeAt Tryz.underlying42 rfl hi42) rfl ?_
      exact ⟨0, ⟨num', rfl⟩, rfl, TL.out.2.2.2.2.1, (HKO.out.trans HK8.out (fun k hk e => e.elim (fun e => by rw [e]; exact HMS.out) (fun e => by omega))).trans TL.out.2.2.2.2.2 (fun k hk e => by omega)⟩

end Go.Proofs.YtmblkpjnafgplaaGreatDoor

namespace Go.Proofs.YtmblkpjnafgplaaGreatDoor
open Go Go.RowKit
set_option maxRecDepth 100000
set_option linter.unusedVariables false
set_option linter.unusedSimpArgs false

/-- the state's cells, of a store's head -/
abbrev stC (h : Hd) (sz : Int) (nd : Int) (dv : Value) : List Value := [.int .u64 (h.cnt : Int), .int .u64 h.byt, .int .u64 (h.fsq : Int), .int .i64 h.ft, .int .u64 (h.n : Int), .int .i64 h.lt, .int .i64 sz, .map none, .int .i64 nd, dv, .int .i64 0]

theorem range_nil (a : Addr) (f : Value) (w : World) (h : w.cell? a = some (.pointer none)) : Calls Tryz.prog 104 #[.pointer (some a), f] w fun e w' => e = .returned (.tuple #[]) ∧ w' = w := by
  obtain ⟨b, o, s⟩ := a
  go_enter Tryz.func104, Tryz.ntmps104
  go_wp2
  go_end0
  exact ⟨rfl, rfl⟩

theorem hd_wunlock_d {w : World} {ms : Nat} {h : Hd} (hb : Blk w ms 87 h.cells) (h0 : h.l0 = 1) (h4 : h.l4 = -1073741824) (u : FrameMode) : CallsD Tryz.prog 62 #[.pointer (some ⟨ms, 0, none⟩)] u w fun e u' w' =>
    u' = u ∧ (e = .returned (.tuple #[]) ∧ Blk w' ms 87 ({ h with l0 := 0, l4 := 0 } : Hd).cells ∧ Keep (fun k => k = ms) w w') := by
  have c0 : w.cell? ⟨ms, 0, none⟩ = some (.int .i32 1) := by rw [hb.cell]; simp [h0]
  have c4 : w.cell? ⟨ms, 0 + 4, none⟩ = some (.int .i32 (-1073741824)) := by rw [hb.cell]; simp [h4]
  refine (Go.RwLone.wunlock_deferred rwWLib ms 0 (.int .u32 0) (.int .u32 0) u w c0 (by rw [hb.cell]; rfl) (by rw [hb.cell]; rfl) c4 (hb.frozen 0) (hb.frozen 4)).mono ?_
  rintro e u' w' ⟨rfl, rfl, rfl⟩
  exact ⟨rfl, rfl, (hb.set_ 4 _).set_ 0 _, (keep1 w ms _ _).put rfl _ _⟩

/-- a state copied into its result's block -/
theorem st_tail {w W : World} {h : Hd} {b2 b3 : Nat} {C : Array Value} (sz nd : Int) (dv : Value) (hd : dv.oneCell' = true) (h2 : Blk w b2 80 zSt) (h3 : Blk W b3 80 C) (hk : Keep (fun k => k = b3) w W) (hne : b2 ≠ b3) (hC : C = (stC h sz nd dv).toArray := by rfl) :
    W.rangeAt b3 0 (stC h sz nd dv) ∧ W.there b2 0 11 ∧ (stC h sz nd dv).toArray.all (·.oneCell') = true ∧ Blk (W.setCells b2 0 (stC h sz nd dv)) b2 80 (stC h sz nd dv).toArray ∧ Keep (fun k => k = b2) W (W.setCells b2 0 (stC h sz nd dv)) := by
  subst hC
  have h2' := hk.blk h2 hne
  refine ⟨h3.rangeAt, h2'.there, all_oneCell_toArray (fun v hv => ?_), h2'.setCells_whole _ rfl, Keep.setCells (F := fun k => k = b2) (fun _ => rfl) _ 0 _ (Keep.refl _ _)⟩
  simp only [List.mem_cons, List.not_mem_nil, or_false] at hv
  rcases hv with rfl | rfl | rfl | rfl | rfl | rfl | rfl | rfl | rfl | rfl | rfl
  all_goals first | rfl | exact hd

set_option maxHeartbeats 4000000 in
theorem state0_any (w : World) (ms : Nat) (h : Hd) (its : List Item) (M : List Ent) (F : List Nat) (S : StoreAt w ms h its M F) (h0 : h.l0 = 0) (h4 : h.l4 = 0) (hd : h.d0 = .pointer none) (hne : 0 < h.n) (hc : h.cnt = h.n - h.fsq + 1) (hf : h.fsq ≤ h.n) :
    Calls Tryz.prog 53 #[.pointer (some ⟨ms, 0, none⟩)] w fun e w' => ∃ sz, e = .returned (.agg (stC h sz 0 (.slice none 0 0)).toArray) ∧ StoreAt w' ms h its M F ∧ Keep (fun k => k = ms) w w' := by
  have hl := hd_wlock ((S.hd.alloc (.cells #[.pointer (some ⟨ms, 0, none⟩)] 50)).alloc (.cells zSt 80)) h0 h4
  have hms := S.hd.lt
  have HS := Lib.hid S
  clear S
  have hb1 := (Blk.new w 50 #[.pointer (some ⟨ms, 0, none⟩)]).alloc (.cells zSt 80)
  have hb2 := Blk.new (w.alloc (.cells #[.pointer (some ⟨ms, 0, none⟩)] 50)) 80 zSt
  rw [show (w.alloc (.cells #[.pointer (some ⟨ms, 0, none⟩)] 50)).heap.size = w.heap.size + 1 by simp] at hb2
  have hkW := ((Keep.refl NoB w).alloc (.cells #[.pointer (some ⟨ms, 0, none⟩)] 50)).alloc (.cells zSt 80)
  have HB := Lib.hid (And.intro hb1 (And.intro hb2 hkW))
  clear hb1 hb2 hkW
  go_enter_defers Tryz.func53, Tryz.ntmps53
  go_wp2_with fail
  refine hl.mono ?_
  rintro e w1 ⟨rfl, hm1, hk1⟩
  have k1 := hk1.blk HB.out.1 (fun e => by omega)
  have k2 := hk1.blk HB.out.2.1 (fun e => by omega)
  have i0 : w1.cell? ⟨w.heap.size, 0, none⟩ = some (.pointer (some ⟨ms, 0, none⟩)) := by rw [k1.cell]; rfl
  have c14 : w1.cell? ⟨ms, 14, none⟩ = some (.int .u64 (h.cnt : Int)) := by rw [hm1.cell]; rfl
  have c15 : w1.cell? ⟨ms, 15, none⟩ = some (.int .u64 h.byt) := by rw [hm1.cell]; rfl
  have c16 : w1.cell? ⟨ms, 16, none⟩ = some (.int .u64 (h.fsq : Int)) := by rw [hm1.cell]; rfl
  have c17 : w1.cell? ⟨ms, 17, none⟩ = some (.int .i64 h.ft) := by rw [hm1.cell]; rfl
  have c18 : w1.cell? ⟨ms, 18, none⟩ = some (.int .u64 (h.n : Int)) := by rw [hm1.cell]; rfl
  have c19 : w1.cell? ⟨ms, 19, none⟩ = some (.int .i64 h.lt) := by rw [hm1.cell]; rfl
  have c20 : w1.cell? ⟨ms, 20, none⟩ = some (.int .i64 0) := by rw [hm1.cell]; rfl
  have c21 : w1.cell? ⟨ms, 21, none⟩ = some (.map none) := by rw [hm1.cell]; rfl
  have c22 : w1.cell? ⟨ms, 22, none⟩ = some (.int .i64 0) := by rw [hm1.cell]; rfl
  have c23 : w1.cell? ⟨ms, 23, none⟩ = some (.slice none 0 0) := by rw [hm1.cell]; rfl
  have c24 : w1.cell? ⟨ms, 24, none⟩ = some (.int .i64 0) := by rw [hm1.cell]; rfl
  have c26 : w1.cell? ⟨ms, 26, none⟩ = some (.pointer (some ⟨h.tb, 0, none⟩)) := by rw [hm1.cell]; rfl
  have H1 := Lib.hid (And.intro hm1 (And.intro hk1 (And.intro k1 k2)))
  have z1 : w.heap.size < w1.heap.size := k1.lt
  have z2 : w.heap.size + 1 < w1.heap.size := k2.lt
  have z3 : ms < w1.heap.size := hm1.lt
  obtain ⟨sz, ct, z4⟩ : ∃ sz, w1.cell? ⟨h.tb, 1, none⟩ = some (.int .i64 sz) ∧ h.tb < w1.heap.size := by
    obtain ⟨root, hr, _⟩ := HS.out.tree
    have hr1 := hk1.blk (HB.out.2.2.blk hr (fun h => h)) (fun e => HS.out.dis2.2.1 e.symm)
    exact ⟨_, by rw [hr1.cell]; rfl, hr1.lt⟩
  have HE := Lib.hid (And.intro hc (And.intro hd (And.intro h0 h4)))
  have hc1 : (h.cnt : Int) ≤ (h.n : Int) - (h.fsq : Int) + 1 := by omega
  have hc2 : (h.n : Int) - (h.fsq : Int) + 1 ≤ (h.cnt : Int) := by omega
  have hn30 := HS.out.few
  clear hm1 hk1 k1 k2 hl hc hd h0 h4
  go_wp2_with fail
  have hb3 : Blk (w1.alloc (.cells (stC h 0 0 (.slice none 0 0)).toArray 80)) w1.heap.size 80 (stC h 0 0 (.slice none 0 0)).toArray := Blk.new w1 80 _
  have hk3 := (Keep.refl NoB w1).alloc (.cells (stC h 0 0 (.slice none 0 0)).toArray 80)
  change Calls Tryz.prog 64 _ (w1.alloc (.cells (stC h 0 0 (.slice none 0 0)).toArray 80)) _
  generalize w1.alloc (.cells (stC h 0 0 (.slice none 0 0)).toArray 80) = W3 at hb3 hk3 ⊢
  have y0 : W3.cell? ⟨w1.heap.size, 0, none⟩ = some (.int .u64 (h.cnt : Int)) := by rw [hb3.cell]; rfl
  have y2 : W3.cell? ⟨w1.heap.size, 2, none⟩ = some (.int .u64 (h.fsq : Int)) := by rw [hb3.cell]; rfl
  have y4 : W3.cell? ⟨w1.heap.size, 4, none⟩ = some (.int .u64 (h.n : Int)) := by rw [hb3.cell]; rfl
  have y6 : W3.cell? ⟨w1.heap.size, 6, none⟩ = some (.int .i64 0) := by rw [hb3.cell]; rfl
  have y9 : W3.cell? ⟨w1.heap.size, 9, none⟩ = some (.slice none 0 0) := by rw [hb3.cell]; rfl
  have f6 := hb3.frozen 6
  have f9 := hb3.frozen 9
  have TL := Lib.hid (st_tail sz 0 (.slice none 0 0) rfl (hk3.blk H1.out.2.2.2 (fun h => h)) ((hb3.set_ 6 (.int .i64 sz)).set_ 9 (.slice none 0 0)) ((keep1 W3 w1.heap.size 6 (.int .i64 sz)).put rfl 9 (.slice none 0 0)) (by omega))
  refine (size_any h.tb sz _ (hk3.cellS ct (fun h => h))).mono ?_
  rintro e w4 ⟨rfl, rfl⟩
  have H3 := Lib.hid (And.intro hb3 hk3)
  clear hb3 hk3 ct i0 c14 c15 c16 c17 c18 c19 c20 c21 c22 c23 c24 c26
  have hi80 : (Tryz.prog.info? 80).map (·.size) = some 11 := by kernel_rfl
  go_wp2_with (first | (refine wpList_load_mid rfl 80 (.tmp 3) rfl w1.heap.size 0 rfl (stC h sz 0 (.slice none 0 0)) _ TL.out.1 Tryz.underlying80 rfl hi80 ?_) | (refine wpList_store_mid rfl 80 (.tmp 2) (.tmp 57) rfl (w.heap.size + 1) 0 (stC h sz 0 (.slice none 0 0)).toArray rfl rfl TL.out.2.1 hi80 TL.out.2.2.1 ?_) | fail)
  have hmW : Blk (((w4.setCell ⟨w1.heap.size, 6, none⟩ (.int .i64 sz)).setCell ⟨w1.heap.size, 9, none⟩ (.slice none 0 0)).setCells (w.heap.size + 1) 0 (stC h sz 0 (.slice none 0 0))) ms 87 ({ h with l0 := 1, l4 := -1073741824 } : Hd).cells :=
    TL.out.2.2.2.2.blk ((((H3.out.2.blk H1.out.1 (fun h => h)).far (p := ⟨w1.heap.size, 6, none⟩) (by simp only; omega) _).far (p := ⟨w1.heap.size, 9, none⟩) (by simp only; omega) _)) (fun e => by omega)
  refine leaves_cons (f := 62) (args := #[.pointer (some ⟨ms, 0, none⟩)]) (by simp) (by simp [go_sem]) ?_
  refine (hd_wunlock_d hmW rfl rfl .returning).mono ?_
  rintro e u' w5 ⟨rfl, rfl, hm5, hk5⟩
  have hr5 := (hk5.blk TL.out.2.2.2.1 (fun e => by omega)).rangeAt
  refine ⟨_, results_cell rfl _ _ _ (w.heap.size + 1) 0 rfl (stC h sz 0 (.slice none 0 0)) _ hr5 Tryz.underlying80 rfl hi80, sz, rfl, ?_⟩
  obtain ⟨hc, hd, h0, h4⟩ := HE.out
  have kA : Keep (fun k => k = ms) w w1 := HB.out.2.2.none_trans' H1.out.2.1
  have kB : Keep NoB w1 (((w4.setCell ⟨w1.heap.size, 6, none⟩ (.int .i64 sz)).setCell ⟨w1.heap.size, 9, none⟩ (.slice none 0 0))) :=
    H3.out.2.own (F := fun k => k = w1.heap.size) ((keep1 w4 w1.heap.size 6 (.int .i64 sz)).put rfl 9 (.slice none 0 0)) (fun k e => by omega)
  have kC : Keep (fun k => k = ms) w (((w4.setCell ⟨w1.heap.size, 6, none⟩ (.int .i64 sz)).setCell ⟨w1.heap.size, 9, none⟩ (.slice none 0 0)).setCells (w.heap.size + 1) 0 (stC h sz 0 (.slice none 0 0))) :=
    (kA.none_trans kB).trans TL.out.2.2.2.2 (fun k hk e => by omega)
  have kD := kC.trans hk5 (fun _ _ e => e)
  have hm6 : Blk w5 ms 87 h.lk.un.cells := hm5
  rw [Hd.lk_un h0 h4] at hm6
  exact ⟨HS.out.turn kD hm6 ⟨rfl, rfl, rfl, rfl, rfl, rfl, rfl, rfl, rfl, rfl⟩, kD⟩

/-- the same of an empty store -/
abbrev stZ (h : Hd) (sz : Int) (dv : Value) : List Value := [.int .u64 0, .int .u64 h.byt, .int .u64 0, .int .i64 h.ft, .int .u64 0, .int .i64 h.lt, .int .i64 sz, .map none, .int .i64 0, dv, .int .i64 0]

theorem st_tailZ {w W : World} {h : Hd} {b2 b3 : Nat} {C : Array Value} (sz : Int) (dv : Value) (hd : dv.oneCell' = true) (h2 : Blk w b2 80 zSt) (h3 : Blk W b3 80 C) (hk : Keep (fun k => k = b3) w W) (hne : b2 ≠ b3) (hC : C = (stZ h sz dv).toArray := by rfl) :
    W.rangeAt b3 0 (stZ h sz dv) ∧ W.there b2 0 11 ∧ (stZ h sz dv).toArray.all (·.oneCell') = true ∧ Blk (W.setCells b2 0 (stZ h sz dv)) b2 80 (stZ h sz dv).toArray ∧ Keep (fun k => k = b2) W (W.setCells b2 0 (stZ h sz dv)) := by
  subst hC
  have h2' := hk.blk h2 hne
  refine ⟨h3.rangeAt, h2'.there, all_oneCell_toArray (fun v hv => ?_), h2'.setCells_whole _ rfl, Keep.setCells (F := fun k => k = b2) (fun _ => rfl) _ 0 _ (Keep.refl _ _)⟩
  simp only [List.mem_cons, List.not_mem_nil, or_false] at hv
  rcases hv with rfl | rfl | rfl | rfl | rfl | rfl | rfl | rfl | rfl | rfl | rfl
  all_goals first | rfl | exact hd

set_option maxHeartbeats 4000000 in
theorem state1_any (w : World) (ms : Nat) (h : Hd) (its : List Item) (M : List Ent) (F : List Nat) (S : StoreAt w ms h its M F) (h0 : h.l0 = 0) (h4 : h.l4 = 0) (hd : h.d0 = .pointer none) (hn : h.n = 0) (hc : h.cnt = 0) (hf : h.fsq = 0) :
    Calls Tryz.prog 53 #[.pointer (some ⟨ms, 0, none⟩)] w fun e w' => ∃ sz b, e = .returned (.agg (stC h sz 0 (.slice (some ⟨b, 0, none⟩) 0 1)).toArray) ∧ StoreAt w' ms h its M F ∧ Keep (fun k => k = ms) w w' := by
  have hl := hd_wlock ((S.hd.alloc (.cells #[.pointer (some ⟨ms, 0, none⟩)] 50)).alloc (.cells zSt 80)) h0 h4
  have hms := S.hd.lt
  have HS := Lib.hid S
  clear S
  have hb1 := (Blk.new w 50 #[.pointer (some ⟨ms, 0, none⟩)]).alloc (.cells zSt 80)
  have hb2 := Blk.new (w.alloc (.cells #[.pointer (some ⟨ms, 0, none⟩)] 50)) 80 zSt
  rw [show (w.alloc (.cells #[.pointer (some ⟨ms, 0, none⟩)] 50)).heap.size = w.heap.size + 1 by simp] at hb2
  have hkW := ((Keep.refl NoB w).alloc (.cells #[.pointer (some ⟨ms, 0, none⟩)] 50)).alloc (.cells zSt 80)
  have HB := Lib.hid (And.intro hb1 (And.intro hb2 hkW))
  clear hb1 hb2 hkW
  have HE := Lib.hid (And.intro hc (And.intro hd (And.intro h0 (And.intro h4 (And.intro hn hf)))))
  clear hc hd h0 h4 hn hf
  go_enter_defers Tryz.func53, Tryz.ntmps53
  go_wp2_with fail
  refine hl.mono ?_
  rintro e w1 ⟨rfl, hm1, hk1⟩
  have k1 := hk1.blk HB.out.1 (fun e => by omega)
  have k2 := hk1.blk HB.out.2.1 (fun e => by omega)
  have i0 : w1.cell? ⟨w.heap.size, 0, none⟩ = some (.pointer (some ⟨ms, 0, none⟩)) := by rw [k1.cell]; rfl
  have c14 : w1.cell? ⟨ms, 14, none⟩ = some (.int .u64 0) := by rw [hm1.cell]; simp [HE.out.1]
  have c15 : w1.cell? ⟨ms, 15, none⟩ = some (.int .u64 h.byt) := by rw [hm1.cell]; rfl
  have c16 : w1.cell? ⟨ms, 16, none⟩ = some (.int .u64 0) := by rw [hm1.cell]; simp [HE.out.2.2.2.2.2]
  have c17 : w1.cell? ⟨ms, 17, none⟩ = some (.int .i64 h.ft) := by rw [hm1.cell]; rfl
  have c18 : w1.cell? ⟨ms, 18, none⟩ = some (.int .u64 0) := by rw [hm1.cell]; simp [HE.out.2.2.2.2.1]
  have c19 : w1.cell? ⟨ms, 19, none⟩ = some (.int .i64 h.lt) := by rw [hm1.cell]; rfl
  have c20 : w1.cell? ⟨ms, 20, none⟩ = some (.int .i64 0) := by rw [hm1.cell]; rfl
  have c21 : w1.cell? ⟨ms, 21, none⟩ = some (.map none) := by rw [hm1.cell]; rfl
  have c22 : w1.cell? ⟨ms, 22, none⟩ = some (.int .i64 0) := by rw [hm1.cell]; rfl
  have c23 : w1.cell? ⟨ms, 23, none⟩ = some (.slice none 0 0) := by rw [hm1.cell]; rfl
  have c24 : w1.cell? ⟨ms, 24, none⟩ = some (.int .i64 0) := by rw [hm1.cell]; rfl
  have c26 : w1.cell? ⟨ms, 26, none⟩ = some (.pointer (some ⟨h.tb, 0, none⟩)) := by rw [hm1.cell]; rfl
  have H1 := Lib.hid (And.intro hm1 (And.intro hk1 (And.intro k1 k2)))
  have z1 : w.heap.size < w1.heap.size := k1.lt
  have z2 : w.heap.size + 1 < w1.heap.size := k2.lt
  have z3 : ms < w1.heap.size := hm1.lt
  obtain ⟨sz, ct, z4⟩ : ∃ sz, w1.cell? ⟨h.tb, 1, none⟩ = some (.int .i64 sz) ∧ h.tb < w1.heap.size := by
    obtain ⟨root, hr, _⟩ := HS.out.tree
    have hr1 := hk1.blk (HB.out.2.2.blk hr (fun h => h)) (fun e => HS.out.dis2.2.1 e.symm)
    exact ⟨_, by rw [hr1.cell]; rfl, hr1.lt⟩
  clear hm1 hk1 k1 k2 hl
  go_wp2_with fail
  have hb3 : Blk (w1.alloc (.cells (stZ h 0 (.slice none 0 0)).toArray 80)) w1.heap.size 80 (stZ h 0 (.slice none 0 0)).toArray := Blk.new w1 80 _
  have hk3 := (Keep.refl NoB w1).alloc (.cells (stZ h 0 (.slice none 0 0)).toArray 80)
  change Calls Tryz.prog 64 _ (w1.alloc (.cells (stZ h 0 (.slice none 0 0)).toArray 80)) _
  generalize w1.alloc (.cells (stZ h 0 (.slice none 0 0)).toArray 80) = W3 at hb3 hk3 ⊢
  have y0 : W3.cell? ⟨w1.heap.size, 0, none⟩ = some (.int .u64 0) := by rw [hb3.cell]; rfl
  have y2 : W3.cell? ⟨w1.heap.size, 2, none⟩ = some (.int .u64 0) := by rw [hb3.cell]; rfl
  have y4 : W3.cell? ⟨w1.heap.size, 4, none⟩ = some (.int .u64 0) := by rw [hb3.cell]; rfl
  have y6 : W3.cell? ⟨w1.heap.size, 6, none⟩ = some (.int .i64 0) := by rw [hb3.cell]; rfl
  have y9 : W3.cell? ⟨w1.heap.size, 9, none⟩ = some (.slice none 0 0) := by rw [hb3.cell]; rfl
  have f6 := hb3.frozen 6
  have f9 := hb3.frozen 9
  have z5 : w1.heap.size < W3.heap.size := hb3.lt
  refine (size_any h.tb sz _ (hk3.cellS ct (fun h => h))).mono ?_
  rintro e w4 ⟨rfl, rfl⟩
  have H3 := Lib.hid (And.intro hb3 hk3)
  clear hb3 hk3 ct i0 c14 c15 c16 c17 c18 c19 c20 c21 c22 c23 c24 c26
  have hi80 : (Tryz.prog.info? 80).map (·.size) = some 11 := by kernel_rfl
  have hmk : ∀ w, (Instr.makeSlice 28 (.int .i64 0) (.int .i64 1)).run Tryz.prog w = .ok (.slice (some ⟨w.heap.size, 0, none⟩) 0 1) (w.alloc (.cells #[.int .u64 0] 25)) := fun _ => by kernel_rfl
  have hmf : ∀ (fn : Fn) (first cap : Array Value) (w : World), (Instr.makeFunc fn first cap).run Tryz.prog w = .ok (.func fn first cap) w := fun _ _ _ _ => rfl
  go_wp2_with fail
  have hb6 := (((H3.out.1.set_ 6 (.int .i64 sz)).set_ 9 (.slice none 0 0)).set_ 9 (.slice (some ⟨w4.heap.size, 0, none⟩) 0 1)).alloc (.cells #[.int .u64 0] 25)
  have hk6 : Keep NoB w1 ((((w4.setCell ⟨w1.heap.size, 6, none⟩ (.int .i64 sz)).setCell ⟨w1.heap.size, 9, none⟩ (.slice none 0 0)).setCell ⟨w1.heap.size, 9, none⟩ (.slice (some ⟨w4.heap.size, 0, none⟩) 0 1)).alloc (.cells #[.int .u64 0] 25)) :=
    (H3.out.2.own (F := fun k => k = w1.heap.size) (((keep1 w4 w1.heap.size 6 (.int .i64 sz)).put rfl 9 (.slice none 0 0)).put rfl 9 (.slice (some ⟨w4.heap.size, 0, none⟩) 0 1)) (fun k e => by omega)).alloc _
  have hb6' : Blk ((((w4.setCell ⟨w1.heap.size, 6, none⟩ (.int .i64 sz)).setCell ⟨w1.heap.size, 9, none⟩ (.slice none 0 0)).setCell ⟨w1.heap.size, 9, none⟩ (.slice (some ⟨w4.heap.size, 0, none⟩) 0 1)).alloc (.cells #[.int .u64 0] 25)) w1.heap.size 80 (stZ h sz (.slice (some ⟨w4.heap.size, 0, none⟩) 0 1)).toArray := hb6
  clear hb6
  generalize (((w4.setCell ⟨w1.heap.size, 6, none⟩ (.int .i64 sz)).setCell ⟨w1.heap.size, 9, none⟩ (.slice none 0 0)).setCell ⟨w1.heap.size, 9, none⟩ (.slice (some ⟨w4.heap.size, 0, none⟩) 0 1)).alloc (.cells #[.int .u64 0] 25) = W6 at hb6' hk6 ⊢
  generalize w4.heap.size = B6 at hb6' ⊢
  clear y0 y2 y4 y6 y9 f6 f9 z5
  have y2 : W6.cell? ⟨w1.heap.size, 2, none⟩ = some (.int .u64 0) := by rw [hb6'.cell]; rfl
  have y4 : W6.cell? ⟨w1.heap.size, 4, none⟩ = some (.int .u64 0) := by rw [hb6'.cell]; rfl
  have H6 := Lib.hid (And.intro hb6' hk6)
  have z6 := hb6'.lt
  clear hb6' hk6
  go_cut [5, 6] from 40 to 43 (fun v5 v6 wx => Keep NoB W6 wx)
  case first =>
    go_region
    all_goals
      go_wp2_with fail
      go_meet
      exact (((Keep.refl NoB W6).alloc _).alloc _).drew
  case rest =>
    have hcut : Keep NoB W6 wc := hcut
    have hb7 := hcut.blk H6.out.1 (fun h => h)
    have k17 := H6.out.2.none_trans hcut
    have hm7 := k17.blk H1.out.1 (fun h => h)
    have i0 : wc.cell? ⟨w.heap.size, 0, none⟩ = some (.pointer (some ⟨ms, 0, none⟩)) := by rw [(k17.blk H1.out.2.2.1 (fun h => h)).cell]; rfl
    have c27 : wc.cell? ⟨ms, 27, none⟩ = some (.pointer none) := by rw [hm7.cell]; simp [HE.out.2.1]
    have y9 : wc.cell? ⟨w1.heap.size, 9, none⟩ = some (.slice (some ⟨B6, 0, none⟩) 0 1) := by rw [hb7.cell]; rfl
    have TL := Lib.hid (st_tailZ (h := h) sz (.slice (some ⟨B6, 0, none⟩) 0 1) rfl (k17.blk H1.out.2.2.2 (fun h => h)) hb7 (Keep.refl (fun k => k = w1.heap.size) wc) (by omega))
    have H7 := Lib.hid (And.intro hm7 k17)
    clear hcut hb7 k17 hm7 y2 y4
    go_wp2_with fail
    refine (range_nil ⟨ms, 27, none⟩ _ _ c27).mono ?_
    rintro e w8 ⟨rfl, rfl⟩
    go_wp2_with (first | (refine wpList_load_mid rfl 80 (.tmp 3) rfl w1.heap.size 0 rfl (stZ h sz (.slice (some ⟨B6, 0, none⟩) 0 1)) _ TL.out.1 Tryz.underlying80 rfl hi80 ?_) | (refine wpList_store_mid rfl 80 (.tmp 2) (.tmp 57) rfl (w.heap.size + 1) 0 (stZ h sz (.slice (some ⟨B6, 0, none⟩) 0 1)).toArray rfl rfl TL.out.2.1 hi80 TL.out.2.2.1 ?_) | fail)
    have hmW := TL.out.2.2.2.2.blk H7.out.1 (fun e => by omega)
    refine leaves_cons (f := 62) (args := #[.pointer (some ⟨ms, 0, none⟩)]) (by simp) (by simp [go_sem]) ?_
    refine (hd_wunlock_d hmW rfl rfl .returning).mono ?_
    rintro e u' w5 ⟨rfl, rfl, hm5, hk5⟩
    have hr5 := (hk5.blk TL.out.2.2.2.1 (fun e => by omega)).rangeAt
    obtain ⟨hc, hd, h0, h4, hn, hf⟩ := HE.out
    refine ⟨_, results_cell rfl _ _ _ (w.heap.size + 1) 0 rfl (stZ h sz (.slice (some ⟨B6, 0, none⟩) 0 1)) _ hr5 Tryz.underlying80 rfl hi80, sz, B6, ?_, ?_⟩
    · simp [hc, hn, hf]
    · have kA : Keep (fun k => k = ms) w w1 := HB.out.2.2.none_trans' H1.out.2.1
      have kC := (kA.none_trans H7.out.2).trans TL.out.2.2.2.2 (fun k hk e => by omega)
      have kD := kC.trans hk5 (fun _ _ e => e)
      have hm6 : Blk w5 ms 87 h.lk.un.cells := hm5
      rw [Hd.lk_un h0 h4] at hm6
      exact ⟨HS.out.turn kD hm6 ⟨rfl, rfl, rfl, rfl, rfl, rfl, rfl, rfl, rfl, rfl⟩, kD⟩

end Go.Proofs.YtmblkpjnafgplaaGreatDoor
