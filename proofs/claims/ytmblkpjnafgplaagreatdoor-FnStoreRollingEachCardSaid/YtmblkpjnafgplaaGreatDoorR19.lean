/- ask: a message, the state. ask: the state. -/
import Derived.Test.YtmblkpjnafgplaaGreatDoorRLk2
import Derived.Test.YtmblkpjnafgplaaGreatDoorR11
namespace Go.Proofs.YtmblkpjnafgplaaGreatDoor
open Go Go.RowKit
set_option maxRecDepth 100000
set_option linter.unusedVariables false
set_option linter.unusedSimpArgs false

theorem MsgV.far {w w' : World} {cs : List Value} {q : Nat} {rc : Rec} {G : Nat → Prop} (h : MsgV w cs q rc) (hk : Keep G w w') (hG : ∀ k, k < w.heap.size → G k → ∃ t C, Blk w k t C ∧ t ≠ 5) : MsgV w' cs q rc := by
  obtain ⟨A1, c1, A2, c2, e, r1, r2, l1, l2, h5⟩ := h
  have hn : ∀ k, (blkOf A1 k ∨ blkOf A2 k) → ¬ G k := fun k hk' hg => by
    obtain ⟨cs, h5⟩ := h5 k hk'
    obtain ⟨t, C, hb, ht⟩ := hG k h5.lt hg
    exact ht (hb.inj h5).2
  exact ⟨A1, c1, A2, c2, e, r1.keep hk (fun k hk' _ => hn k (.inl hk')), r2.keep hk (fun k hk' _ => hn k (.inr hk')), l1, l2, fun k hk' => by obtain ⟨cs, h5⟩ := h5 k hk'; exact ⟨cs, hk.blk h5 (hn k hk')⟩⟩

theorem Other.ty5 {w : World} {k : Nat} (h : Other w k) : ∃ t C, Blk w k t C ∧ t ≠ 5 := by
  obtain ⟨t, C, hb, ht⟩ := h
  exact ⟨t, C, hb, by rcases ht with rfl | rfl | rfl | rfl <;> decide⟩

/-- a value that is one cell and no byte -/
def Plain (v : Value) : Prop := v.oneCell' = true ∧ ∀ b : UInt8, v ≠ byteV b

theorem plain_str (s : Bs) : Plain (str s) := ⟨rfl, fun b h => by cases h⟩
theorem plain_slice (A : Option Addr) (n c : Nat) : Plain (.slice A n c) := ⟨rfl, fun b h => by cases h⟩
theorem plain_u64 (z : Int) : Plain (.int .u64 z) := ⟨rfl, fun b h => by cases h⟩
theorem plain_i64 (z : Int) : Plain (.int .i64 z) := ⟨rfl, fun b h => by cases h⟩
theorem plain_bool (z : Bool) : Plain (.bool z) := ⟨rfl, fun b h => by cases h⟩

theorem foreign_of {w : World} {b : Nat} {C : Array Value} (h : Blk w b 42 C) (hp : ∀ v ∈ C.toList, Plain v) : Foreign w b :=
  ⟨42, C, h, .inl rfl, fun j x hx => by
    rw [← Array.getElem?_toList] at hx
    exact (hp _ (List.mem_of_getElem? hx)).2 x rfl⟩

theorem zTell_plain : ∀ v ∈ zTell.toList, Plain v := by
  intro v hv
  simp only [List.mem_cons, List.not_mem_nil, or_false] at hv
  rcases hv with rfl | rfl | rfl | rfl | rfl | rfl | rfl | rfl | rfl | rfl | rfl | rfl | rfl | rfl | rfl | rfl | rfl | rfl | rfl | rfl | rfl | rfl
  all_goals first | exact plain_i64 _ | exact plain_bool _ | exact plain_u64 _ | exact plain_str _ | exact plain_slice _ _ _

/-- what is told, copied into its result's block -/
theorem tell_tail2 {w0 wc W : World} {ms : Nat} {a : Ab} {b4 b5 : Nat} {C C0 : Array Value} (t : TellV) (h4 : Blk wc b4 42 zTell) (h50 : Blk wc b5 42 C0) (hp0 : ∀ v ∈ C0.toList, Plain v) (h5 : Blk W b5 42 C) (hC : C = t.cells.toArray) (hk : Keep (fun k => k = b5) wc W) (hs : Ses w0 wc ms a)
    (hne : b4 ≠ b5) (hb4 : w0.heap.size ≤ b4) (hb5 : w0.heap.size ≤ b5) (hp : ∀ v ∈ t.cells, Plain v) :
    W.rangeAt b5 0 t.cells ∧ W.there b4 0 22 ∧ t.cells.toArray.all (·.oneCell') = true ∧ Blk (W.setCells b4 0 t.cells) b4 42 t.cells.toArray ∧ Ses w0 (W.setCells b4 0 t.cells) ms a ∧
      Keep (fun k => k = b4 ∨ k = b5) wc (W.setCells b4 0 t.cells) ∧ (∀ k, k < wc.heap.size → (k = b4 ∨ k = b5) → Foreign wc k) := by
  subst hC
  have h4' := hk.blk h4 hne
  have hK : Keep (fun k => k = b4 ∨ k = b5) wc (W.setCells b4 0 t.cells) := Keep.setCells (fun _ => .inl rfl) _ 0 _ (hk.mono (fun k _ e => .inr e))
  have hF : ∀ k, k < wc.heap.size → (k = b4 ∨ k = b5) → Foreign wc k := by
    intro k _ e
    rcases e with rfl | rfl
    · exact foreign_of h4 zTell_plain
    · exact foreign_of h50 hp0
  refine ⟨h5.rangeAt, h4'.there, all_oneCell_toArray (fun v hv => (hp v hv).1), h4'.setCells_whole _ rfl, hs.far hK (fun k hk e => (hF k hk e).other) (fun k e => ?_), hK, hF⟩
  rcases e with rfl | rfl
  · exact hb4
  · exact hb5

/-- the first number -/
def Ab.fst (a : Ab) : Nat := (a.l.head?.map Prod.fst).getD 0

theorem ses_state {P : Nat → Prop} (hst : StLaw P) {w0 w : World} {ms : Nat} {a : Ab} (s : Ses w0 w ms a) (er : Errs w0) (hP : P a.mp) :
    Calls Tryz.prog 53 #[.pointer (some ⟨ms, 0, none⟩)] w fun e w' => ∃ (h : Hd) (sz nd : Int) (A : Option Addr) (k c : Nat) (zs : List Nat), e = .returned (.agg (stC h sz nd (.slice A k c)).toArray) ∧ RowAt w' 1 A k (zs.map u64V) ∧ k ≤ c ∧ k ≤ 100 ∧ h.fsq = a.fst ∧ h.n = a.n ∧ Ses w0 w' ms a ∧ Keep (fun k => k = ms) w w' := by
  obtain ⟨h, its, M, F, S, hl, a1, a2, a3, a4, a5, a6, a7, a8, a9⟩ := s
  refine (hst w ms h its M F S (by rw [a4]; exact hP) a1 a2 (fun j hj => a9.cellS (er.tab j hj) (fun h => h))).mono ?_
  rintro e w' ⟨sz, nd, A, k, c, zs, rfl, hr, hkc, hk, S', hk'⟩
  refine ⟨h, sz, nd, A, k, c, zs, rfl, hr, hkc, hk, ?_, a6, ⟨h, its, M, F, S', hl, a1, a2, a3, a4, a5, a6, a7, a8, a9.own hk' (fun k e => by rw [e]; exact a8 ms (.inl rfl))⟩, hk'⟩
  unfold Ab.fst
  rw [← a7]
  cases its with
  | nil => rw [S.first0 rfl]; rfl
  | cons i t => rw [S.first i rfl]; rfl

abbrev aTell (k : Int) (m0 m1 m2 m3 m4 : Value) : TellV := ⟨k, 0, m0, m1, m2, m3, m4, .int .u64 0, .int .u64 0, .int .u64 0, .int .u64 0, .int .i64 0, .int .i64 0, .int .i64 0, .int .i64 0, .slice none 0 0, .int .u64 0⟩
abbrev bTell (h : Hd) (sz nd : Int) (dv : Value) : TellV := ⟨0, 0, str [], .slice none 0 0, .slice none 0 0, .int .u64 0, .int .i64 0, .int .u64 (h.cnt : Int), .int .u64 h.byt, .int .u64 (h.fsq : Int), .int .u64 (h.n : Int), .int .i64 h.ft, .int .i64 h.lt, .int .i64 sz, .int .i64 nd, dv, .int .u64 0⟩

/-- three blocks: a step, two of what is told -/
theorem ask_blocks (w : World) (sv : StepV) : Blk (((w.alloc (.cells sv.cells.toArray 46)).alloc (.cells zTell 42)).alloc (.cells zTell 42)) w.heap.size 46 sv.cells.toArray ∧
    Blk (((w.alloc (.cells sv.cells.toArray 46)).alloc (.cells zTell 42)).alloc (.cells zTell 42)) (w.heap.size + 1) 42 zTell ∧ Blk (((w.alloc (.cells sv.cells.toArray 46)).alloc (.cells zTell 42)).alloc (.cells zTell 42)) (w.heap.size + 2) 42 zTell ∧
    Keep NoB w (((w.alloc (.cells sv.cells.toArray 46)).alloc (.cells zTell 42)).alloc (.cells zTell 42)) := by
  have h1 := ((Blk.new w 46 sv.cells.toArray).alloc (.cells zTell 42)).alloc (.cells zTell 42)
  have h2 := (Blk.new (w.alloc (.cells sv.cells.toArray 46)) 42 zTell).alloc (.cells zTell 42)
  have h3 := Blk.new ((w.alloc (.cells sv.cells.toArray 46)).alloc (.cells zTell 42)) 42 zTell
  rw [show (w.alloc (.cells sv.cells.toArray 46)).heap.size = w.heap.size + 1 by simp] at h2
  rw [show ((w.alloc (.cells sv.cells.toArray 46)).alloc (.cells zTell 42)).heap.size = w.heap.size + 2 by simp] at h3
  exact ⟨h1, h2, h3, (((Keep.refl NoB w).alloc _).alloc _).alloc _⟩

set_option maxHeartbeats 4000000 in
theorem ask20_any {w0 w : World} {ms : Nat} {a : Ab} (s : Ses w0 w ms a) (er : Errs w0) (sv : StepV) (k : Nat) (h0 : sv.op = 20) (hq : sv.seq = (k : Int)) :
    Calls Tryz.prog 18 #[.pointer (some ⟨ms, 0, none⟩), sv.val] w fun e w' => ∃ kd m0 m1 m2 m3 m4, e = .returned (aTell kd m0 m1 m2 m3 m4).val ∧ (∀ v ∈ (aTell kd m0 m1 m2 m3 m4).cells, Plain v) ∧ Ses w0 w' ms a ∧ Keep (fun k => k = ms) w w' ∧
      ((∃ rc, (k, rc) ∈ a.l ∧ kd = 0 ∧ MsgV w' [m0, m1, m2, m3, m4] k rc) ∨ ((∀ rc, (k, rc) ∉ a.l) ∧ kd = 1)) := by
  obtain ⟨op, subj, hA, hdr, hc, dA, dat, dc, t, seq, num, kp, last, sA, sn, sc, q0, q1, q2, q3, q4, q5⟩ := sv
  simp only at h0 hq
  subst h0 hq
  obtain ⟨hb1, hb2, hb3, hkW⟩ := ask_blocks w ⟨20, subj, hA, hdr, hc, dA, dat, dc, t, k, num, kp, last, sA, sn, sc, q0, q1, q2, q3, q4, q5⟩
  obtain ⟨hms, hz0⟩ : ms < w.heap.size ∧ w0.heap.size ≤ w.heap.size := by obtain ⟨h, its, M, F, S, _, _, _, _, _, _, _, _, _, k0⟩ := s; exact ⟨S.hd.lt, k0.size⟩
  have hload := ses_load (s.keep hkW) er k
  have hi42 : (Tryz.prog.info? 42).map (·.size) = some 22 := by kernel_rfl
  have hne : w.heap.size + 1 ≠ w.heap.size + 2 := by omega
  have HB := Lib.hid (And.intro hb1 (And.intro hb2 (And.intro hb3 (And.intro hkW hload))))
  clear hb1 hb2 hb3 hkW hload s
  go_enter Tryz.func18, Tryz.ntmps18
  go_wp2_with fail
  refine HB.out.2.2.2.2.mono ?_
  rintro e w6 ⟨s6, hk6, (⟨rc, d, N, hmem, rfl, hm, hok⟩ | ⟨hmem, t', v', rfl⟩)⟩
  · have hb2 := hk6.blk HB.out.2.1 (fun e => by omega)
    have hb3 := hk6.blk HB.out.2.2.1 (fun e => by omega)
    have H6 := Lib.hid (And.intro s6 (And.intro hk6 (And.intro hmem (And.intro hb2 (And.intro hb3 (message_any d k rc w6 N hm hok))))))
    clear s6 hk6 hmem hm hok hb2 hb3
    go_wp2_with fail
    refine H6.out.2.2.2.2.2.mono ?_
    rintro e w7 ⟨v1, v2, rfl, hmv, hk7⟩
    obtain ⟨A1, c1', A2, c2', e, r1, r2, l1, l2, h5⟩ := hmv
    simp only [List.cons.injEq, and_true] at e
    obtain ⟨_, rfl, rfl, _⟩ := e
    have hmv : MsgV w7 [str rc.subj, .slice A1 rc.hdr.length c1', .slice A2 rc.dat.length c2', .int .u64 (k : Int), .int .i64 rc.ts] k rc := ⟨A1, c1', A2, c2', rfl, r1, r2, l1, l2, h5⟩
    clear r1 r2 l1 l2 h5
    have ha7 := hk7.blk H6.out.2.2.2.1 (fun h => h)
    have hb7 := hk7.blk H6.out.2.2.2.2.1 (fun h => h)
    have c0 : w7.cell? ⟨w.heap.size + 2, 0, none⟩ = some (.int .i64 0) := by rw [hb7.cell]; rfl
    have f0 := hb7.frozen 0
    have c4 : w7.cell? ⟨w.heap.size + 2, 4, none⟩ = some (str []) := by rw [hb7.cell]; rfl
    have f4 := hb7.frozen 4
    have c5 : w7.cell? ⟨w.heap.size + 2, 5, none⟩ = some (.slice none 0 0) := by rw [hb7.cell]; rfl
    have f5 := hb7.frozen 5
    have c6 : w7.cell? ⟨w.heap.size + 2, 6, none⟩ = some (.slice none 0 0) := by rw [hb7.cell]; rfl
    have f6 := hb7.frozen 6
    have c7 : w7.cell? ⟨w.heap.size + 2, 7, none⟩ = some (.int .u64 0) := by rw [hb7.cell]; rfl
    have f7 := hb7.frozen 7
    have c8 : w7.cell? ⟨w.heap.size + 2, 8, none⟩ = some (.int .i64 0) := by rw [hb7.cell]; rfl
    have f8 := hb7.frozen 8
    have hpl : ∀ v ∈ (aTell 0 (str rc.subj) (.slice A1 rc.hdr.length c1') (.slice A2 rc.dat.length c2') (.int .u64 (k : Int)) (.int .i64 rc.ts)).cells, Plain v := by
      intro v hv
      simp only [List.mem_cons, List.not_mem_nil, or_false] at hv
      rcases hv with rfl | rfl | rfl | rfl | rfl | rfl | rfl | rfl | rfl | rfl | rfl | rfl | rfl | rfl | rfl | rfl | rfl | rfl | rfl | rfl | rfl | rfl
      all_goals first | exact plain_i64 _ | exact plain_bool _ | exact plain_u64 _ | exact plain_str _ | exact plain_slice _ _ _
    have hbk : Blk ((((((w7.setCell ⟨w.heap.size + 1 + 1, 4, none⟩ (str rc.subj)).setCell ⟨w.heap.size + 1 + 1, 5, none⟩ (.slice A1 rc.hdr.length c1')).setCell ⟨w.heap.size + 1 + 1, 6, none⟩ (.slice A2 rc.dat.length c2')).setCell ⟨w.heap.size + 1 + 1, 7, none⟩ (.int .u64 (k : Int))).setCell ⟨w.heap.size + 1 + 1, 8, none⟩ (.int .i64 rc.ts))) (w.heap.size + 2) 42 (aTell 0 (str rc.subj) (.slice A1 rc.hdr.length c1') (.slice A2 rc.dat.length c2') (.int .u64 (k : Int)) (.int .i64 rc.ts)).cells.toArray ∧ Keep (fun k => k = w.heap.size + 2) w7 ((((((w7.setCell ⟨w.heap.size + 1 + 1, 4, none⟩ (str rc.subj)).setCell ⟨w.heap.size + 1 + 1, 5, none⟩ (.slice A1 rc.hdr.length c1')).setCell ⟨w.heap.size + 1 + 1, 6, none⟩ (.slice A2 rc.dat.length c2')).setCell ⟨w.heap.size + 1 + 1, 7, none⟩ (.int .u64 (k : Int))).setCell ⟨w.heap.size + 1 + 1, 8, none⟩ (.int .i64 rc.ts))) :=
      ⟨(((((hb7.set_ 4 (str rc.subj)).set_ 5 (.slice A1 rc.hdr.length c1')).set_ 6 (.slice A2 rc.dat.length c2')).set_ 7 (.int .u64 (k : Int))).set_ 8 (.int .i64 rc.ts)), (((((keep1 w7 (w.heap.size + 2) 4 (str rc.subj)).put rfl 5 (.slice A1 rc.hdr.length c1')).put rfl 6 (.slice A2 rc.dat.length c2')).put rfl 7 (.int .u64 (k : Int))).put rfl 8 (.int .i64 rc.ts))⟩
    have H7 := Lib.hid (And.intro hk7 (And.intro hpl (And.intro hmv (And.intro ha7 (And.intro hb7 hbk)))))
    clear hk7 ha7 hb7 hpl hmv hbk
    go_wp2_with fail
    refine (one_nil _).mono ?_
    rintro e w8 ⟨rfl, hw8⟩
    have hq8 := H7.out.2.2.2.2.2
    rw [← hw8] at hq8
    have c0 : w8.cell? ⟨w.heap.size + 2, 0, none⟩ = some (.int .i64 0) := by rw [hq8.1.cell]; rfl
    have f0 := hq8.1.frozen 0
    have TL := Lib.hid (tell_tail2 (aTell 0 (str rc.subj) (.slice A1 rc.hdr.length c1') (.slice A2 rc.dat.length c2') (.int .u64 (k : Int)) (.int .i64 rc.ts)) H7.out.2.2.2.1 H7.out.2.2.2.2.1 zTell_plain (hq8.1.set_ 0 (.int .i64 0)) rfl (hq8.2.put rfl 0 (.int .i64 0)) (H6.out.1.keep H7.out.1) hne (by omega) (by omega) H7.out.2.1)
    clear hw8 hq8
    go_wp2_with (first | (refine wpList_load_mid rfl 42 (.tmp 5) rfl (w.heap.size + 2) 0 rfl (aTell 0 (str rc.subj) (.slice A1 rc.hdr.length c1') (.slice A2 rc.dat.length c2') (.int .u64 (k : Int)) (.int .i64 rc.ts)).cells _ TL.out.1 Tryz.underlying42 rfl hi42 ?_) | (refine wpList_store_mid rfl 42 (.tmp 4) (.tmp 195) rfl (w.heap.size + 1) 0 (aTell 0 (str rc.subj) (.slice A1 rc.hdr.length c1') (.slice A2 rc.dat.length c2') (.int .u64 (k : Int)) (.int .i64 rc.ts)).cells.toArray rfl rfl TL.out.2.1 hi42 TL.out.2.2.1 ?_) | fail)
    refine bodyPost_ret (v := (aTell 0 (str rc.subj) (.slice A1 rc.hdr.length c1') (.slice A2 rc.dat.length c2') (.int .u64 (k : Int)) (.int .i64 rc.ts)).val) (results_cell rfl _ _ _ (w.heap.size + 1) 0 rfl (aTell 0 (str rc.subj) (.slice A1 rc.hdr.length c1') (.slice A2 rc.dat.length c2') (.int .u64 (k : Int)) (.int .i64 rc.ts)).cells _ TL.out.2.2.2.1.rangeAt Tryz.underlying42 rfl hi42) rfl ?_
    have kf : Keep (fun k => k = ms) w _ := (HB.out.2.2.2.1.none_trans' H6.out.2.1).none_trans H7.out.1
    have kg := kf.trans TL.out.2.2.2.2.2.1 (fun k hk e => by omega)
    refine ⟨0, _, _, _, _, _, rfl, H7.out.2.1, TL.out.2.2.2.2.1, kg, .inl ⟨rc, H6.out.2.2.1, rfl, ?_⟩⟩
    exact H7.out.2.2.1.far TL.out.2.2.2.2.2.1 (fun k hk e => (TL.out.2.2.2.2.2.2 k hk e).other.ty5)
  · have hb2 := hk6.blk HB.out.2.1 (fun e => by omega)
    have hb3 := hk6.blk HB.out.2.2.1 (fun e => by omega)
    have H6 := Lib.hid (And.intro s6 (And.intro hk6 (And.intro hmem (And.intro hb2 (And.intro hb3 (message_nil w6))))))
    clear s6 hk6 hmem hb2 hb3
    go_wp2_with fail
    refine H6.out.2.2.2.2.2.mono ?_
    rintro e w7 ⟨rfl, hk7⟩
    have ha7 := hk7.blk H6.out.2.2.2.1 (fun h => h)
    have hb7 := hk7.blk H6.out.2.2.2.2.1 (fun h => h)
    have c0 : w7.cell? ⟨w.heap.size + 2, 0, none⟩ = some (.int .i64 0) := by rw [hb7.cell]; rfl
    have f0 := hb7.frozen 0
    have c4 : w7.cell? ⟨w.heap.size + 2, 4, none⟩ = some (str []) := by rw [hb7.cell]; rfl
    have f4 := hb7.frozen 4
    have c5 : w7.cell? ⟨w.heap.size + 2, 5, none⟩ = some (.slice none 0 0) := by rw [hb7.cell]; rfl
    have f5 := hb7.frozen 5
    have c6 : w7.cell? ⟨w.heap.size + 2, 6, none⟩ = some (.slice none 0 0) := by rw [hb7.cell]; rfl
    have f6 := hb7.frozen 6
    have c7 : w7.cell? ⟨w.heap.size + 2, 7, none⟩ = some (.int .u64 0) := by rw [hb7.cell]; rfl
    have f7 := hb7.frozen 7
    have c8 : w7.cell? ⟨w.heap.size + 2, 8, none⟩ = some (.int .i64 0) := by rw [hb7.cell]; rfl
    have f8 := hb7.frozen 8
    have hpl : ∀ v ∈ (aTell 1 (str []) (.slice none 0 0) (.slice none 0 0) (.int .u64 0) (.int .i64 0)).cells, Plain v := by
      intro v hv
      simp only [List.mem_cons, List.not_mem_nil, or_false] at hv
      rcases hv with rfl | rfl | rfl | rfl | rfl | rfl | rfl | rfl | rfl | rfl | rfl | rfl | rfl | rfl | rfl | rfl | rfl | rfl | rfl | rfl | rfl | rfl
      all_goals first | exact plain_i64 _ | exact plain_bool _ | exact plain_u64 _ | exact plain_str _ | exact plain_slice _ _ _
    have hbk : Blk ((((((w7.setCell ⟨w.heap.size + 1 + 1, 4, none⟩ (str [])).setCell ⟨w.heap.size + 1 + 1, 5, none⟩ (.slice none 0 0)).setCell ⟨w.heap.size + 1 + 1, 6, none⟩ (.slice none 0 0)).setCell ⟨w.heap.size + 1 + 1, 7, none⟩ (.int .u64 0)).setCell ⟨w.heap.size + 1 + 1, 8, none⟩ (.int .i64 0))) (w.heap.size + 2) 42 (aTell 0 (str []) (.slice none 0 0) (.slice none 0 0) (.int .u64 0) (.int .i64 0)).cells.toArray ∧ Keep (fun k => k = w.heap.size + 2) w7 ((((((w7.setCell ⟨w.heap.size + 1 + 1, 4, none⟩ (str [])).setCell ⟨w.heap.size + 1 + 1, 5, none⟩ (.slice none 0 0)).setCell ⟨w.heap.size + 1 + 1, 6, none⟩ (.slice none 0 0)).setCell ⟨w.heap.size + 1 + 1, 7, none⟩ (.int .u64 0)).setCell ⟨w.heap.size + 1 + 1, 8, none⟩ (.int .i64 0))) :=
      ⟨(((((hb7.set_ 4 (str [])).set_ 5 (.slice none 0 0)).set_ 6 (.slice none 0 0)).set_ 7 (.int .u64 0)).set_ 8 (.int .i64 0)), (((((keep1 w7 (w.heap.size + 2) 4 (str [])).put rfl 5 (.slice none 0 0)).put rfl 6 (.slice none 0 0)).put rfl 7 (.int .u64 0)).put rfl 8 (.int .i64 0))⟩
    have H7 := Lib.hid (And.intro hk7 (And.intro hpl (And.intro trivial (And.intro ha7 (And.intro hb7 hbk)))))
    clear hk7 ha7 hb7 hpl hbk
    go_wp2_with fail
    refine (one_err t' v' _).mono ?_
    rintro e w8 ⟨rfl, hw8⟩
    have hq8 := H7.out.2.2.2.2.2
    rw [← hw8] at hq8
    have c0 : w8.cell? ⟨w.heap.size + 2, 0, none⟩ = some (.int .i64 0) := by rw [hq8.1.cell]; rfl
    have f0 := hq8.1.frozen 0
    have TL := Lib.hid (tell_tail2 (aTell 1 (str []) (.slice none 0 0) (.slice none 0 0) (.int .u64 0) (.int .i64 0)) H7.out.2.2.2.1 H7.out.2.2.2.2.1 zTell_plain (hq8.1.set_ 0 (.int .i64 1)) rfl (hq8.2.put rfl 0 (.int .i64 1)) (H6.out.1.keep H7.out.1) hne (by omega) (by omega) H7.out.2.1)
    clear hw8 hq8
    go_wp2_with (first | (refine wpList_load_mid rfl 42 (.tmp 5) rfl (w.heap.size + 2) 0 rfl (aTell 1 (str []) (.slice none 0 0) (.slice none 0 0) (.int .u64 0) (.int .i64 0)).cells _ TL.out.1 Tryz.underlying42 rfl hi42 ?_) | (refine wpList_store_mid rfl 42 (.tmp 4) (.tmp 195) rfl (w.heap.size + 1) 0 (aTell 1 (str []) (.slice none 0 0) (.slice none 0 0) (.int .u64 0) (.int .i64 0)).cells.toArray rfl rfl TL.out.2.1 hi42 TL.out.2.2.1 ?_) | fail)
    refine bodyPost_ret (v := (aTell 1 (str []) (.slice none 0 0) (.slice none 0 0) (.int .u64 0) (.int .i64 0)).val) (results_cell rfl _ _ _ (w.heap.size + 1) 0 rfl (aTell 1 (str []) (.slice none 0 0) (.slice none 0 0) (.int .u64 0) (.int .i64 0)).cells _ TL.out.2.2.2.1.rangeAt Tryz.underlying42 rfl hi42) rfl ?_
    have kf : Keep (fun k => k = ms) w _ := (HB.out.2.2.2.1.none_trans' H6.out.2.1).none_trans H7.out.1
    have kg := kf.trans TL.out.2.2.2.2.2.1 (fun k hk e => by omega)
    exact ⟨1, _, _, _, _, _, rfl, H7.out.2.1, TL.out.2.2.2.2.1, kg, .inr ⟨H6.out.2.2.1, rfl⟩⟩


end Go.Proofs.YtmblkpjnafgplaaGreatDoor

namespace Go.Proofs.YtmblkpjnafgplaaGreatDoor
open Go Go.RowKit
set_option maxRecDepth 100000
set_option linter.unusedVariables false
set_option linter.unusedSimpArgs false

set_option maxHeartbeats 4000000 in
theorem ask32_any {P : Nat → Prop} (hst : StLaw P) {w0 w : World} {ms : Nat} {a : Ab} (s : Ses w0 w ms a) (er : Errs w0) (hP : P a.mp) (sv : StepV) (h0 : sv.op = 32) :
    Calls Tryz.prog 18 #[.pointer (some ⟨ms, 0, none⟩), sv.val] w fun e w' => ∃ (h : Hd) (sz nd : Int) (A' : Option Addr) (n' c' : Nat), e = .returned (bTell h sz nd (.slice A' n' c')).val ∧ h.fsq = a.fst ∧ h.n = a.n ∧ (∀ v ∈ (bTell h sz nd (.slice A' n' c')).cells, Plain v) ∧ Ses w0 w' ms a ∧ Keep (fun k => k = ms) w w' := by
  obtain ⟨op, subj, hA, hdr, hc, dA, dat, dc, t, seq, num, kp, last, sA, sn, sc, q0, q1, q2, q3, q4, q5⟩ := sv
  simp only at h0
  subst h0
  obtain ⟨hb1, hb2, hb3, hkW⟩ := ask_blocks w ⟨32, subj, hA, hdr, hc, dA, dat, dc, t, seq, num, kp, last, sA, sn, sc, q0, q1, q2, q3, q4, q5⟩
  obtain ⟨hms, hz0⟩ : ms < w.heap.size ∧ w0.heap.size ≤ w.heap.size := by obtain ⟨h, its, M, F, S, _, _, _, _, _, _, _, _, _, k0⟩ := s; exact ⟨S.hd.lt, k0.size⟩
  have hstate := ses_state hst (s.keep hkW) er hP
  have hi42 : (Tryz.prog.info? 42).map (·.size) = some 22 := by kernel_rfl
  have hi30 : (Tryz.prog.info? 30).map (·.size) = some 10 := by kernel_rfl
  have hne : w.heap.size + 1 ≠ w.heap.size + 2 := by omega
  have HB := Lib.hid (And.intro hb1 (And.intro hb2 (And.intro hb3 (And.intro hkW hstate))))
  clear hb1 hb2 hb3 hkW hstate s
  go_enter Tryz.func18, Tryz.ntmps18
  go_wp2_with fail
  refine HB.out.2.2.2.2.mono ?_
  rintro e w6 ⟨h, sz, nd, A, kk, c, zs, rfl, hr, hkc, hk100, e1, e2, s6, hk6⟩
  have hst2 := st_any h sz nd A kk c zs w6 hr hkc hk100
  have hb2 := hk6.blk HB.out.2.1 (fun e => by omega)
  have hb3 := hk6.blk HB.out.2.2.1 (fun e => by omega)
  have H6 := Lib.hid (And.intro s6 (And.intro hk6 (And.intro (And.intro e1 e2) (And.intro hb2 (And.intro hb3 hst2)))))
  clear s6 hk6 hr hkc hk100 e1 e2 hb2 hb3 hst2
  go_wp2_with fail
  refine H6.out.2.2.2.2.2.mono ?_
  rintro e w7 ⟨A', n', c', rfl, hk7⟩
  have ha7 := hk7.blk H6.out.2.2.2.1 (fun h => h)
  have hb7 := hk7.blk H6.out.2.2.2.2.1 (fun h => h)
  obtain ⟨CS, hCS⟩ : ∃ CS, CS = (sC h sz nd (.slice A' n' c')).toArray := ⟨_, rfl⟩
  have hsz : CS.size = 10 := by rw [hCS]; rfl
  have hth : w7.there (w.heap.size + 2) 11 CS.size := fun j hj => by
    have := hb7.there (11 + j) (by simp; omega)
    simpa using this
  have hone : CS.all (·.oneCell') = true := by rw [hCS]; exact all_oneCell_toArray (by simp [Value.oneCell'])
  have hi30' : (Tryz.prog.info? 30).map (·.size) = some CS.size := by rw [hsz]; exact hi30
  have hb8 : Blk (w7.setCells (w.heap.size + 2) 11 CS.toList) (w.heap.size + 2) 42 (bTell h sz nd (.slice A' n' c')).cells.toArray := by
    rw [hCS]; exact hb7.setCells_mid 11 (sC h sz nd (.slice A' n' c')) (by simp)
  have hk8 : Keep (fun k => k = w.heap.size + 2) w7 (w7.setCells (w.heap.size + 2) 11 CS.toList) := Keep.setCells (F := fun k => k = w.heap.size + 2) (fun _ => rfl) _ 11 _ (Keep.refl _ _)
  have s7 := (H6.out.1.keep hk7).far (G := fun k => k = w.heap.size + 2) hk8 (fun k _ e => by rw [e]; exact (foreign_of hb7 zTell_plain).other) (fun k e => by omega)
  have H7 := Lib.hid (And.intro hk7 (And.intro hth (And.intro hone (And.intro hb8 (And.intro hk8 (And.intro s7 (And.intro ha7 hi30')))))))
  rw [← hCS]
  clear hk7 ha7 hb7 hth hone hb8 hk8 s7 hCS hsz hi30'
  go_wp2_with (first | (refine wpList_store_mid rfl 30 (.tmp 162) (.tmp 161) rfl (w.heap.size + 2) 11 CS rfl rfl H7.out.2.1 H7.out.2.2.2.2.2.2.2 H7.out.2.2.1 ?_) | fail)
  refine (message_nil _).mono ?_
  rintro e w9 ⟨rfl, hk9⟩
  have hb9 := hk9.blk H7.out.2.2.2.1 (fun h => h)
  have ha9 := hk9.blk (H7.out.2.2.2.2.1.blk H7.out.2.2.2.2.2.2.1 hne) (fun h => h)
  have c4 : w9.cell? ⟨w.heap.size + 2, 4, none⟩ = some (str []) := by rw [hb9.cell]; rfl
  have f4 := hb9.frozen 4
  have c5 : w9.cell? ⟨w.heap.size + 2, 5, none⟩ = some (.slice none 0 0) := by rw [hb9.cell]; rfl
  have f5 := hb9.frozen 5
  have c6 : w9.cell? ⟨w.heap.size + 2, 6, none⟩ = some (.slice none 0 0) := by rw [hb9.cell]; rfl
  have f6 := hb9.frozen 6
  have c7 : w9.cell? ⟨w.heap.size + 2, 7, none⟩ = some (.int .u64 0) := by rw [hb9.cell]; rfl
  have f7 := hb9.frozen 7
  have c8 : w9.cell? ⟨w.heap.size + 2, 8, none⟩ = some (.int .i64 0) := by rw [hb9.cell]; rfl
  have f8 := hb9.frozen 8
  have hpl : ∀ v ∈ (bTell h sz nd (.slice A' n' c')).cells, Plain v := by
    intro v hv
    simp only [List.mem_cons, List.not_mem_nil, or_false] at hv
    rcases hv with rfl | rfl | rfl | rfl | rfl | rfl | rfl | rfl | rfl | rfl | rfl | rfl | rfl | rfl | rfl | rfl | rfl | rfl | rfl | rfl | rfl | rfl
    all_goals first | exact plain_i64 _ | exact plain_bool _ | exact plain_u64 _ | exact plain_str _ | exact plain_slice _ _ _
  have hbk : Blk (((((w9.setCell ⟨w.heap.size + 1 + 1, 4, none⟩ (str [])).setCell ⟨w.heap.size + 1 + 1, 5, none⟩ (.slice none 0 0)).setCell ⟨w.heap.size + 1 + 1, 6, none⟩ (.slice none 0 0)).setCell ⟨w.heap.size + 1 + 1, 7, none⟩ (.int .u64 0)).setCell ⟨w.heap.size + 1 + 1, 8, none⟩ (.int .i64 0)) (w.heap.size + 2) 42 (bTell h sz nd (.slice A' n' c')).cells.toArray ∧ Keep (fun k => k = w.heap.size + 2) w9 (((((w9.setCell ⟨w.heap.size + 1 + 1, 4, none⟩ (str [])).setCell ⟨w.heap.size + 1 + 1, 5, none⟩ (.slice none 0 0)).setCell ⟨w.heap.size + 1 + 1, 6, none⟩ (.slice none 0 0)).setCell ⟨w.heap.size + 1 + 1, 7, none⟩ (.int .u64 0)).setCell ⟨w.heap.size + 1 + 1, 8, none⟩ (.int .i64 0)) := ⟨(((((hb9.set_ 4 (str [])).set_ 5 (.slice none 0 0)).set_ 6 (.slice none 0 0)).set_ 7 (.int .u64 0)).set_ 8 (.int .i64 0)), (((((keep1 w9 (w.heap.size + 2) 4 (str [])).put rfl 5 (.slice none 0 0)).put rfl 6 (.slice none 0 0)).put rfl 7 (.int .u64 0)).put rfl 8 (.int .i64 0))⟩
  have H9 := Lib.hid (And.intro hk9 (And.intro hpl (And.intro ha9 (And.intro hb9 hbk))))
  clear hk9 hpl ha9 hb9 hbk
  go_wp2_with fail
  refine (one_nil _).mono ?_
  rintro e w8 ⟨rfl, hw8⟩
  have hq8 := H9.out.2.2.2.2
  rw [← hw8] at hq8
  have c0 : w8.cell? ⟨w.heap.size + 2, 0, none⟩ = some (.int .i64 0) := by rw [hq8.1.cell]; rfl
  have f0 := hq8.1.frozen 0
  have TL := Lib.hid (tell_tail2 (bTell h sz nd (.slice A' n' c')) H9.out.2.2.1 H9.out.2.2.2.1 (fun v hv => H9.out.2.1 v (by simpa using hv)) (hq8.1.set_ 0 (.int .i64 0)) rfl (hq8.2.put rfl 0 (.int .i64 0)) (H7.out.2.2.2.2.2.1.keep H9.out.1) hne (by omega) (by omega) H9.out.2.1)
  clear hw8 hq8
  go_wp2_with (first | (refine wpList_load_mid rfl 42 (.tmp 5) rfl (w.heap.size + 2) 0 rfl (bTell h sz nd (.slice A' n' c')).cells _ TL.out.1 Tryz.underlying42 rfl hi42 ?_) | (refine wpList_store_mid rfl 42 (.tmp 4) (.tmp 195) rfl (w.heap.size + 1) 0 (bTell h sz nd (.slice A' n' c')).cells.toArray rfl rfl TL.out.2.1 hi42 TL.out.2.2.1 ?_) | fail)
  refine bodyPost_ret (v := (bTell h sz nd (.slice A' n' c')).val) (results_cell rfl _ _ _ (w.heap.size + 1) 0 rfl (bTell h sz nd (.slice A' n' c')).cells _ TL.out.2.2.2.1.rangeAt Tryz.underlying42 rfl hi42) rfl ?_
  have kf : Keep (fun k => k = ms) w _ := (HB.out.2.2.2.1.none_trans' H6.out.2.1).none_trans H7.out.1
  have kh := (kf.trans H7.out.2.2.2.2.1 (fun k hk e => by omega)).none_trans H9.out.1
  have kg := kh.trans TL.out.2.2.2.2.2.1 (fun k hk e => by omega)
  exact ⟨h, sz, nd, A', n', c', rfl, H6.out.2.2.1.1, H6.out.2.2.1.2, H9.out.2.1, TL.out.2.2.2.2.1, kg⟩

end Go.Proofs.YtmblkpjnafgplaaGreatDoor
