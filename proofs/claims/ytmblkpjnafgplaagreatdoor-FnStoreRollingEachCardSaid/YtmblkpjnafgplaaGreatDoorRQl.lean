/- held: a store's messages, each asked for by its number. -/
import Derived.Test.YtmblkpjnafgplaaGreatDoorR21
import Derived.Test.YtmblkpjnafgplaaGreatDoorR20
namespace Go.Proofs.YtmblkpjnafgplaaGreatDoor
open Go Go.RowKit
set_option maxRecDepth 100000
set_option linter.unusedVariables false
set_option linter.unusedSimpArgs false

/-- a block of cells written whole -/
theorem wpList_store_blk {w : World} {ops : Array Oper} {rest : List Oper} {o : Oper} {a : Act} {Q : Exit → Act → World → Prop} {g ty : Nat} {C : Array Value} (hb : Blk w g ty C) (CS : Array Value) (hz : CS.size = C.size) (hi : (Tryz.prog.info? ty).map (·.size) = some CS.size) (hone : CS.all (·.oneCell') = true)
    (hg : o.guard = none) (x y : Operand) (hop : o.op = .store ty x y) (hx : a.eval x = .pointer (some ⟨g, 0, none⟩)) (hy : a.eval y = .agg CS)
    (hgo : ∀ w', Blk w' g ty CS → Keep (fun k => k = g) w w' → wpList Tryz.prog ops Q rest (a.put o.dst undef) w') :
    wpList Tryz.prog ops Q (o :: rest) a w :=
  wpList_store_mid hg ty x y hop g 0 CS hx hy (by rw [hz]; exact hb.there) hi hone (hgo _ (by simpa using hb.setCells_whole CS.toList (by simpa using hz)) (Keep.setCells (F := fun k => k = g) (fun _ => rfl) _ 0 _ (Keep.refl _ _)))

abbrev askV (op seq : Int) : StepV := ⟨op, [], none, [], 0, none, [], 0, 0, seq, 0, 0, false, none, 0, 0, 0, 0, 0, false, false, 0⟩
abbrev zSta : Array Value := #[.int .u64 0, .int .u64 0, .int .u64 0, .int .u64 0, .int .i64 0, .int .i64 0, .int .i64 0, .int .i64 0, .slice none 0 0, .int .u64 0]

theorem info39 : ∃ (i : TypeInfo) (z : Value), Tryz.prog.info? 39 = some i ∧ i.zero = some z ∧ i.size = 5 ∧ z.cells.size = 5 ∧ i.bytes ≤ 1000 ∧ (∀ m : MC, Instr.fill (fun j => some (j * i.size, i.size)) ((Array.range (1 * i.size)).map (z.cells[· % z.cells.size]!)) [(0, .agg m.cells.toArray)] = some m.cells.toArray) :=
  ⟨_, _, rfl, rfl, rfl, rfl, by decide, fun t => by kernel_rfl⟩

theorem own_ty {w : World} {base E size n : Nat} {v : Value} {xs : List Value} (h : w.ownsRow base E size v n xs) : ∀ k, some k = v.ownBlock → ∃ C, Blk w k E C := by
  intro k hk
  rcases h.2 with ⟨rfl, _⟩ | ⟨g, cap, cur, rfl, hb, hg, _⟩
  · cases hk
  · injection hk with hk
    simp only at hk
    subst hk
    exact ⟨cur, hg⟩

theorem MsgL.snoc {w : World} {cs : List MC} {l : List (Nat × Rec)} {c : MC} {x : Nat × Rec} (h : MsgL w cs l) (h1 : MsgV w c.cells x.1 x.2) (h2 : x.2.Ok) : MsgL w (cs ++ [c]) (l ++ [x]) := by
  refine ⟨by simp [h.1], fun j d y hd hy => ?_⟩
  by_cases hj : j < cs.length
  · exact h.2 j d y (by rwa [List.getElem?_append_left hj] at hd) (by rwa [List.getElem?_append_left (by rw [← h.1]; exact hj)] at hy)
  · have hj2 : j = cs.length := by have := (List.getElem?_eq_some_iff.1 hd).1; simp at this; omega
    subst hj2
    rw [List.getElem?_append_right (Nat.le_refl _), Nat.sub_self] at hd
    rw [h.1, List.getElem?_append_right (Nat.le_refl _), Nat.sub_self] at hy
    simp only [List.getElem?_cons_zero, Option.some.injEq] at hd hy
    subst hd; subst hy
    exact ⟨h1, h2⟩
theorem MsgL.far {w w' : World} {cs : List MC} {l : List (Nat × Rec)} {G : Nat → Prop} (h : MsgL w cs l) (hk : Keep G w w') (hG : ∀ k, k < w.heap.size → G k → ∃ t C, Blk w k t C ∧ t ≠ 5) : MsgL w' cs l :=
  ⟨h.1, fun j d y hd hy => ⟨(h.2 j d y hd hy).1.far hk hG, (h.2 j d y hd hy).2⟩⟩
theorem MsgL.keep {w w' : World} {cs : List MC} {l : List (Nat × Rec)} (h : MsgL w cs l) (hk : Keep NoB w w') : MsgL w' cs l := h.far hk (fun _ _ h => h.elim)

theorem TellV.msg {w : World} {b o : Nat} {t : TellV} (h : w.rangeAt b o t.cells) : w.rangeAt b (o + 4) (MC.cells ⟨t.m0, t.m1, t.m2, t.m3, t.m4⟩) := fun j v hv => by
  have := h (4 + j) v (by
    have hj : j < 5 := by have := (List.getElem?_eq_some_iff.1 hv).1; simpa using this
    match j, hj, hv with
    | 0, _, hv => exact hv
    | 1, _, hv => exact hv
    | 2, _, hv => exact hv
    | 3, _, hv => exact hv
    | 4, _, hv => exact hv)
  rwa [← Nat.add_assoc] at this

/-- what held answers -/
def HPost (w : World) (l : List (Nat × Rec)) (e : Ending) (w' : World) : Prop :=
  ∃ (CS : Array Value) (A' : Option Addr) (c' : Nat) (cs : List MC), e = .returned (.tuple #[.agg CS, .slice A' l.length c', .bool true]) ∧ (CS.size = 10 ∧ CS.all (·.oneCell') = true) ∧ l.length ≤ c' ∧ RowAt w' 5 A' l.length (cs.flatMap MC.cells) ∧ MsgL w' cs l ∧ Keep NoB w w'

set_option maxHeartbeats 4000000 in
theorem held_any {P : Nat → Prop} (hraw : RawLaw P) (hst : StLaw P) (mm mp disc : Nat) (nw : Bool) (hdn : disc = if nw then 1 else 0) (hP : P mp) (hmode : mp = 0 ∨ nw = false) (hmm : mm ≤ 1000) (hmp : mp ≤ 1000) (hd : (nw = false ∧ mm = 0) ∨ (nw = true ∧ 0 < mm))
    (w : World) (er : Errs w) (A : Option Addr) (l : List StepV) (c : Nat) (hA : RowAt w 16 A l.length (l.flatMap StepV.cells)) (okl : ∀ sv ∈ l, StepOk w sv) (h0 : ∀ sv ∈ l, sv.op = 0) (hl : l.length ≤ 24) (a : Ab) (ha : a = runA ⟨mm, mp, disc, 0, []⟩ l) (hg : GoodA a) (hn : a.n ≤ 24) (hok : ∀ x ∈ a.l, x.2.Ok) :
    Calls Tryz.prog 8 #[.agg (cfgC mm mp nw).toArray, .slice A l.length c] w (HPost w a.l) := by
  have hask := fun (w1 : World) (hk : Keep NoB w w1) (B : Option Addr) (d : Nat) (qs : List StepV) (hB : RowAt w1 16 B qs.length (qs.flatMap StepV.cells)) (okq : ∀ sv ∈ qs, StepOk w1 sv) (hq : ∀ sv ∈ qs, sv.op ≠ 0) (hql : qs.length ≤ 1000) =>
    show Calls Tryz.prog 13 #[.agg (cfgC mm mp nw).toArray, .slice A l.length c, .slice B qs.length d] w1 (APost w1 a qs) from by
      rw [ha]
      exact asked_any hraw hst mm mp disc nw hdn hP hmode hmm hmp hd w1 (er.keep hk) A B l qs c d (hA.keep hk (fun _ _ _ h => h)) hB (fun sv hsv => (okl sv hsv).keep hk) h0 okq hq hl hql
  have HA := Lib.hid (And.intro hask (And.intro hg hok))
  have hi27 : (Tryz.prog.info? 27).map (·.size) = some 6 := by kernel_rfl
  obtain ⟨i46, z46, hi46, hz46, hsz46, hzs46, hby46, hf46⟩ := info46
  have hsm46 : ¬ 1 * i46.size > 2 ^ 24 := by rw [hsz46]; decide
  have hps46 : ¬ 1 * i46.size = 0 := by rw [hsz46]; decide
  clear hask hraw hst hdn hP hmode hd er hA okl h0 ha hg hok
  have hbx : Blk ((w.alloc (.cells (cfgC mm mp nw).toArray 27)).alloc (.cells zSta 30)) w.heap.size 27 (cfgC mm mp nw).toArray := (Blk.new w 27 _).alloc _
  have hb4 : Blk ((w.alloc (.cells (cfgC mm mp nw).toArray 27)).alloc (.cells zSta 30)) (w.heap.size + 1) 30 zSta := by
    have := Blk.new (w.alloc (.cells (cfgC mm mp nw).toArray 27)) 30 zSta
    rw [show (w.alloc (.cells (cfgC mm mp nw).toArray 27)).heap.size = w.heap.size + 1 by simp] at this
    exact this
  have hkb := ((Keep.refl NoB w).alloc (.cells (cfgC mm mp nw).toArray 27)).alloc (.cells zSta 30)
  obtain ⟨i39, z39, hi39, hz39, hsz39, hzs39, hby39, hf39⟩ := info39
  have hsm39 : ¬ 1 * i39.size > 2 ^ 24 := by rw [hsz39]; decide
  have hps39 : ¬ 1 * i39.size = 0 := by rw [hsz39]; decide
  have hi39s : (Tryz.prog.info? 39).map (·.size) = some 5 := by rw [hi39]; simp [hsz39]
  have hal : a.l.length ≤ 1000 := by
    have := len_sorted_le (n := 25) HA.out.2.1.srt (fun x hx => by obtain ⟨y, hy, rfl⟩ := List.mem_map.1 hx; have := (HA.out.2.1.num y hy).2; omega)
    simp only [List.length_map] at this
    omega
  have HB := Lib.hid (And.intro hbx (And.intro hb4 hkb))
  clear hbx hb4 hkb
  go_enter Tryz.func8, Tryz.ntmps8
  go_wp2_with (first
    | (have hx := HB; generalize (w.alloc (.cells (cfgC mm mp nw).toArray 27)).alloc (.cells zSta 30) = wb at HB ⊢; refine wpList_load_mid rfl 27 (.tmp 2) rfl w.heap.size 0 rfl (cfgC mm mp nw) _ HB.out.1.rangeAt Tryz.underlying27 rfl hi27 ?_)
    | (refine wpList_build1 Tryz.underlying22 hi46 hz46 hsm46 hps46 rfl (.tmp 17) rfl (askV 32 0).cells.toArray (askV 32 0).val rfl (hf46 (askV 32 0)) ?_; intro w4 hb4 hk4; have HB4 := Lib.hid (And.intro hb4 hk4); clear hb4 hk4)
    | fail)
  refine (HA.out.1 w4 (HB.out.2.2.none_trans HB4.out.2) (some ⟨wb.heap.size, 0, none⟩) 1 [askV 32 0] (by simpa using HB4.out.1.row1 rfl) (fun sv hsv => .inr (.inl (by rw [List.mem_singleton.1 hsv]))) (fun sv hsv => by rw [List.mem_singleton.1 hsv]; decide) (by simp)).mono ?_
  rintro e w5 ⟨A1, c1, ts1, rfl, hl1, hr1, hs1, hp1, hk5⟩
  obtain ⟨t1, rfl⟩ : ∃ t1, ts1 = [t1] := List.length_eq_one_iff.1 hl1
  obtain ⟨e1, e2, e3⟩ := (hs1 0 (askV 32 0) t1 rfl rfl).2.1 rfl
  obtain ⟨b1, o1, rfl, hra⟩ := hr1.elem (fun _ => rfl) (by decide) (j := 0) (x := t1) rfl
  rw [Nat.zero_mul, Nat.add_zero] at hra
  have x0 : w5.cell? ⟨b1, o1, none⟩ = some (.int .i64 0) := by rw [← e1]; simpa using hra 0 _ rfl
  obtain ⟨CS, hCS⟩ : ∃ CS : Array Value, CS = #[t1.s0, t1.s1, t1.s2, t1.s3, t1.s4, t1.s5, t1.s6, t1.s7, t1.s8, t1.s9] := ⟨_, rfl⟩
  have hsz : CS.size = 10 := by rw [hCS]; rfl
  have g2 : CS[2]? = some (.int .u64 (a.fst : Int)) := by rw [hCS, ← e2]; rfl
  have g3 : CS[3]? = some (.int .u64 (a.n : Int)) := by rw [hCS, ← e3]; rfl
  have hone : CS.all (·.oneCell') = true := by
    rw [hCS]
    have hp := hp1 t1 (by simp)
    simp only [List.all_toArray, List.all_cons, List.all_nil, Bool.and_true, Bool.and_eq_true]
    refine ⟨?_, ?_, ?_, ?_, ?_, ?_, ?_, ?_, ?_, ?_⟩ <;> exact (hp _ (by simp)).1
  have hr11 : w5.rangeAt b1 (o1 + 11) CS.toList := fun j v hv => by
    have := hra (11 + j) v (by
      rw [hCS] at hv
      have hj : j < 10 := by have := (List.getElem?_eq_some_iff.1 hv).1; simpa using this
      match j, hj, hv with
      | 0, _, hv => exact hv
      | 1, _, hv => exact hv
      | 2, _, hv => exact hv
      | 3, _, hv => exact hv
      | 4, _, hv => exact hv
      | 5, _, hv => exact hv
      | 6, _, hv => exact hv
      | 7, _, hv => exact hv
      | 8, _, hv => exact hv
      | 9, _, hv => exact hv)
    rwa [← Nat.add_assoc] at this
  have hi30 : (Tryz.prog.info? 30).map (·.size) = some CS.size := by rw [hsz]; kernel_rfl
  have hi30' : (Tryz.prog.info? 30).map (·.size) = some CS.toList.length := by rw [hi30]; simp
  have HT := Lib.hid (And.intro hr11 (And.intro hone (And.intro hi30 (And.intro hi30' (And.intro hsz (And.intro g2 g3))))))
  have H5 := Lib.hid ((HB.out.2.2.none_trans HB4.out.2).none_trans hk5)
  have HB5 := Lib.hid (And.intro ((HB4.out.2.none_trans hk5).blk HB.out.1 (fun h => h)) ((HB4.out.2.none_trans hk5).blk HB.out.2.1 (fun h => h)))
  clear hl1 hr1 hs1 hp1 hk5 hra e1 e2 e3 hCS hsz g2 g3 hone hr11 hi30 hi30' HB4
  obtain ⟨f1, f2, f3⟩ := goodA_fst HA.out.2.1
  have HF := Lib.hid (And.intro f2 f3)
  clear f2 f3
  have w1' : (a.fst : Int) ≤ (a.n : Int) := by omega
  have w2' : (a.n : Int) ≤ 24 := by omega
  have w3' : (0 : Int) ≤ (a.fst : Int) := Int.natCast_nonneg _
  have w4' : (a.n : Int) - (a.fst : Int) ≤ 200 := by omega
  rcases (show 0 < a.n ∨ ¬ 0 < a.n by omega) with hz | hz
  all_goals
   go_wp2_with (first
     | (refine wpList_load_mid rfl 30 (.tmp 34) rfl b1 (o1 + 11) rfl CS.toList _ HT.out.1 Tryz.underlying30 rfl HT.out.2.2.2.1 ?_)
     | (refine wpList_store_blk (Blk.new w5 30 zSta) CS HT.out.2.2.2.2.1 HT.out.2.2.1 HT.out.2.1 rfl (.tmp 9) (.tmp 35) rfl (by rfl) (by simp [Act.eval, Act.put]) ?_; intro w6 hb6 hk6; have H6 := Lib.hid (And.intro hb6 (((Keep.refl NoB w5).alloc (.cells zSta 30)).own hk6 (fun k e => by omega)))
        have x2 : w6.cell? ⟨w5.heap.size, 2, none⟩ = some (.int .u64 (a.fst : Int)) := by rw [hb6.cell]; exact HT.out.2.2.2.2.2.1
        have x3 : w6.cell? ⟨w5.heap.size, 3, none⟩ = some (.int .u64 (a.n : Int)) := by rw [hb6.cell]; exact HT.out.2.2.2.2.2.2
        clear hb6 hk6)
     | fail)
   go_loopw [10, 11] (fun q i wr => ∃ j : Nat, i = .int .u64 ((a.fst + j : Nat) : Int) ∧ a.fst + j ≤ a.n + 1 ∧ wr.ownsRow w6.heap.size 46 16 q j ((List.range j).flatMap fun m => (askV 20 ((a.fst + m : Nat) : Int)).cells) ∧ Keep NoB w6 wr) (fun _ i _ => a.n + 1 - (intOf i).toNat)
   case atStart => exact ⟨0, rfl, by omega, World.ownsRow_nil _ _ _ _, Keep.refl _ _⟩
   case round =>
    obtain ⟨j, rfl, hj, hrow, hk⟩ := hrel
    have y2 := hk.cellS x2 (fun h => h)
    have y3 := hk.cellS x3 (fun h => h)
    have HR := Lib.hid (And.intro hrow hk)
    clear hrow hk
    have g0 : (0 : Int) ≤ ((a.fst + j : Nat) : Int) := Int.natCast_nonneg _
    by_cases hlt : a.fst + j ≤ a.n
    · have g1 : ((a.fst + j : Nat) : Int) ≤ (a.n : Int) := by omega
      generalize hk0 : a.fst + j = kq at *
      go_wp2_with (first
       | (refine wpList_build1 Tryz.underlying22 hi46 hz46 hsm46 hps46 rfl (.tmp 65) rfl (askV 20 (kq : Int)).cells.toArray (askV 20 (kq : Int)).val (by rfl) (hf46 _) ?_; intro w7 hb7 hk7; have HB7 := Lib.hid (And.intro hb7 hk7); clear hb7 hk7)
       | (at_builtin; have hh := @wpList_append_gen 22 46 16 i46 z46 Tryz.underlying22 hi46 hz46 hsz46 hzs46 (by decide) hby46; refine hh rfl (.tmp 63) (.tmp 66) rfl w6.heap.size _ j ((List.range j).flatMap fun m => (askV 20 ((a.fst + m : Nat) : Int)).cells) (some ⟨wr.heap.size, 0, none⟩) 1 1 (askV 20 (kq : Int)).cells (by rfl) (by rfl) (ownsRow_keep HR.out.1 HB7.out.2 (fun _ _ _ h => h)) (HB7.out.1.row1 rfl) (StepV.one _) (Nat.le_trans HR.out.2.size HB7.out.2.size) (by omega) ?_; intro v8 w8 hr8 hg8; have H8 := Lib.hid (And.intro hr8 ((HR.out.2.none_trans HB7.out.2).own (Keep.of_grown hg8) (fun k e => own_ge HR.out.1 k e))); clear hr8 hg8)
       | fail)
      refine ⟨⟨j + 1, by go_num, by omega, ?_, H8.out.2⟩, by simp [intOf]; omega⟩
      have h8 := H8.out.1
      rw [List.range_succ, List.flatMap_append]
      rw [← hk0] at h8
      simpa using h8
    · have hjn : a.fst + j = a.n + 1 := by omega
      obtain ⟨B, d, rfl, _, _, hrB, _⟩ := ownsRow_row HR.out.1
      have KW := H6.out.2.none_trans HR.out.2
      have h2 := HA.out.1 wr (H5.out.none_trans KW) B d ((List.range j).map fun m => askV 20 ((a.fst + m : Nat) : Int)) (by rw [List.length_map, List.length_range, List.flatMap_map]; exact hrB) (fun sv hsv => by obtain ⟨m, _, rfl⟩ := List.mem_map.1 hsv; exact .inr (.inr ⟨rfl, _, rfl⟩)) (fun sv hsv => by obtain ⟨m, _, rfl⟩ := List.mem_map.1 hsv; show (20 : Int) ≠ 0; decide) (by simp; omega)
      rw [List.length_map, List.length_range] at h2
      have HC := Lib.hid (And.intro h2 (And.intro (KW.blk HB5.out.1 (fun h => h)) (And.intro (KW.blk HB5.out.2 (fun h => h)) (And.intro (HR.out.2.blk H6.out.1 (fun h => h)) (H5.out.none_trans KW)))))
      clear h2 KW hrB x2 x3 y2 x0 HR
      go_wp2_with (first | (refine wpList_load_mid rfl 27 (.tmp 2) rfl w.heap.size 0 rfl (cfgC mm mp nw) _ HC.out.2.1.rangeAt Tryz.underlying27 rfl hi27 ?_) | fail)
      refine HC.out.1.mono ?_
      rintro e w9 ⟨A2, c2, ts, rfl, hl2, hr2, hs2, hp2, hk9⟩
      rw [List.length_map, List.length_range] at hl2 hr2 ⊢
      have hsay : ∀ (q : Nat) (t : TellV), q < j → ts[q]? = some t → (∃ rc, (a.fst + q, rc) ∈ a.l ∧ t.k = 0 ∧ MsgV w9 [t.m0, t.m1, t.m2, t.m3, t.m4] (a.fst + q) rc) ∨ ((∀ rc, (a.fst + q, rc) ∉ a.l) ∧ t.k = 1) := fun q t hq ht => (hs2 q _ t (by rw [List.getElem?_map, List.getElem?_range hq]; rfl) ht).2.2 (a.fst + q) rfl rfl
      have H9 := Lib.hid (And.intro hl2 (And.intro hr2 (And.intro hsay (And.intro hp2 hk9))))
      clear hl2 hr2 hs2 hsay hp2 hk9
      go_wp2_with fail
      have hzn := below_none HF.out.1
      go_loopw [12, 13] (fun out i wq => ∃ (m : Nat) (cs : List MC), i = .int .i64 (m : Int) ∧ m ≤ j ∧ wq.ownsRow w9.heap.size 39 5 out (below a.l (a.fst + m)).length (cs.flatMap MC.cells) ∧ MsgL wq cs (below a.l (a.fst + m)) ∧ Keep NoB w9 wq) (fun _ i _ => j - (intOf i).toNat)
      case atStart => exact ⟨0, [], rfl, Nat.zero_le _, by rw [Nat.add_zero, hzn]; exact World.ownsRow_nil _ _ _ _, by rw [Nat.add_zero, hzn]; exact ⟨rfl, fun j d y h => by simp at h⟩, Keep.refl _ _⟩
      case round =>
        obtain ⟨m, cs, rfl, hm, hrow, hM, hk⟩ := hrel
        by_cases hlt2 : m < j
        · obtain ⟨t, ht⟩ : ∃ t, ts[m]? = some t := ⟨ts[m]'(by rw [H9.out.1]; exact hlt2), List.getElem?_eq_getElem _⟩
          obtain ⟨b2, o2, rfl, hrt⟩ := (H9.out.2.1.keep hk (fun _ _ _ h => h)).elem (fun _ => rfl) (by decide) ht
          have z0 : wr.cell? ⟨b2, o2 + m * 22, none⟩ = some (.int .i64 t.k) := by simpa using hrt 0 _ rfl
          have q0 : (0 : Int) ≤ (m : Int) := Int.natCast_nonneg _
          have q1 : (m : Int) < (j : Int) := by omega
          have hs4 := TellV.msg hrt
          obtain ⟨mc, hmc⟩ : ∃ mc : MC, mc = ⟨t.m0, t.m1, t.m2, t.m3, t.m4⟩ := ⟨_, rfl⟩
          rw [← hmc] at hs4
          have hone : ∀ u ∈ mc.cells, u.oneCell' = true := by
            rw [hmc]
            intro u hu
            have hp := H9.out.2.2.2.1 t (List.mem_of_getElem? ht)
            simp only [List.mem_cons, List.not_mem_nil, or_false] at hu
            rcases hu with rfl | rfl | rfl | rfl | rfl <;> exact (hp _ (by simp)).1
          rcases H9.out.2.2.1 m t hlt2 ht with ⟨rc, hmem, hk0, hmv⟩ | ⟨hno, hk1⟩
          · rw [hk0] at z0
            have hmv' : MsgV wr mc.cells (a.fst + m) rc := by rw [hmc]; exact hmv.keep hk
            have HX := Lib.hid (And.intro hs4 (And.intro hone (And.intro hrow (And.intro hM (And.intro hk (And.intro hmv' (And.intro (below_hit HA.out.2.1.srt hmem) (HA.out.2.2 _ hmem))))))))
            have hbl : (below a.l (a.fst + m)).length ≤ 1000 := Nat.le_trans (List.length_filter_le _ _) hal
            clear hs4 hone hrow hM hk hmv hmv' hmc hmem hrt ht
            go_wp2_with (first
              | (refine wpList_load_mid rfl 39 (.tmp 94) rfl b2 (o2 + m * 22 + 4) rfl mc.cells _ HX.out.1 Tryz.underlying39 rfl hi39s ?_)
              | (refine wpList_build1 Tryz.underlying31 hi39 hz39 hsm39 hps39 rfl (.tmp 95) rfl mc.cells.toArray (.agg mc.cells.toArray) (by rfl) (hf39 mc) ?_; intro w11 hb11 hk11; have HB11 := Lib.hid (And.intro hb11 hk11); clear hb11 hk11)
              | (at_builtin; have hh := @wpList_append_gen 31 39 5 i39 z39 Tryz.underlying31 hi39 hz39 hsz39 hzs39 (by decide) hby39; refine hh rfl (.tmp 90) (.tmp 96) rfl w9.heap.size _ (below a.l (a.fst + m)).length (cs.flatMap MC.cells) (some ⟨wr.heap.size, 0, none⟩) 1 1 mc.cells (by rfl) (by rfl) (ownsRow_keep HX.out.2.2.1 HB11.out.2 (fun _ _ _ h => h)) (HB11.out.1.row1 rfl) HX.out.2.1 (Nat.le_trans HX.out.2.2.2.2.1.size HB11.out.2.size) (by omega) ?_; intro v12 w12 hr12 hg12; have H12 := Lib.hid (And.intro hr12 hg12); clear hr12 hg12)
              | fail)
            obtain ⟨_, _, hrow, hM, hk, hmv, hbe, hrok⟩ := HX.out
            have hrow' := ownsRow_keep hrow HB11.out.2 (fun _ _ _ h => h)
            have hkg : Keep (fun k => some k = Value.ownBlock _) w11 w12 := Keep.of_grown H12.out.2
            have hfar : ∀ k, k < w11.heap.size → some k = Value.ownBlock _ → ∃ t C, Blk w11 k t C ∧ t ≠ 5 := fun k _ e => by obtain ⟨C, hC⟩ := own_ty hrow' k e; exact ⟨39, C, hC, by decide⟩
            refine ⟨⟨m + 1, cs ++ [mc], by go_num, by omega, ?_, ?_, (hk.none_trans HB11.out.2).own hkg (fun k e => own_ge hrow k e)⟩, by simp [intOf]; omega⟩
            · rw [← Nat.add_assoc, hbe, List.length_append, List.flatMap_append]
              simpa using H12.out.1
            · rw [← Nat.add_assoc, hbe]
              exact MsgL.snoc ((hM.keep HB11.out.2).far hkg hfar) ((hmv.keep HB11.out.2).far hkg hfar) hrok
          · rw [hk1] at z0
            have HX := Lib.hid (And.intro hrow (And.intro hM (And.intro hk (below_miss hno))))
            clear hs4 hone hrow hM hk hmc hrt ht hno
            go_wp2_with fail
            obtain ⟨hrow, hM, hk, hbe⟩ := HX.out
            exact ⟨⟨m + 1, cs, by go_num, by omega, by rw [← Nat.add_assoc, hbe]; exact hrow, by rw [← Nat.add_assoc, hbe]; exact hM, hk⟩, by simp [intOf]; omega⟩
        · obtain rfl : m = j := by omega
          have hbe : below a.l (a.fst + m) = a.l := by rw [hjn]; exact below_all HF.out.2
          rw [hbe] at hrow hM
          obtain ⟨A3, c3, rfl, hc3, _, hr3, hbk3⟩ := ownsRow_row hrow
          have hlt9 : w.heap.size + 1 < w9.heap.size := Nat.lt_of_lt_of_le HC.out.2.2.1.lt H9.out.2.2.2.2.size
          have HK3 := Lib.hid hbk3
          have HX := Lib.hid (And.intro hr3 (And.intro hM (And.intro ((HC.out.2.2.2.2.none_trans H9.out.2.2.2.2).none_trans hk) (And.intro ((H9.out.2.2.2.2.none_trans hk).blk HC.out.2.2.1 (fun h => h)) ((H9.out.2.2.2.2.none_trans hk).blk HC.out.2.2.2.1 (fun h => h))))))
          clear hrow hM hk hr3 hbk3
          go_wp2_with (first
            | (refine wpList_load_mid rfl 30 (.tmp 9) rfl w5.heap.size 0 rfl CS.toList _ HX.out.2.2.2.2.rangeAt Tryz.underlying30 rfl HT.out.2.2.2.1 ?_)
            | (refine wpList_store_blk HX.out.2.2.2.1 CS (by rw [HT.out.2.2.2.2.1]; rfl) HT.out.2.2.1 HT.out.2.1 rfl (.tmp 4) (.tmp 98) rfl (by rfl) (by simp [Act.eval, Act.put]) ?_; intro w13 hb13 hk13; have H13 := Lib.hid (And.intro hb13 hk13); clear hb13 hk13)
            | fail)
          refine bodyPost_ret (v := .tuple #[.agg CS.toList.toArray, .slice A3 a.l.length c3, .bool true]) ((results_cell3 (fn := Tryz.f8) (t := 4) (u := 5) (v := 6) (ty := 30) rfl _ Tryz.prog w13 (w.heap.size + 1) 0 rfl CS.toList _ H13.out.1.rangeAt Tryz.underlying30 rfl HT.out.2.2.2.1).trans (by simp)) rfl ?_
          obtain ⟨hr3, hM, hkw, hb4, _⟩ := HX.out
          refine ⟨CS, A3, c3, cs, by simp, ⟨HT.out.2.2.2.2.1, HT.out.2.1⟩, hc3, hr3.keep H13.out.2 (fun k hk _ e => by have := (HK3.out k hk).1; omega), hM.far H13.out.2 (fun k _ e => ⟨30, zSta, e ▸ hb4, by decide⟩), hkw.own H13.out.2 (fun k e => by omega)⟩


end Go.Proofs.YtmblkpjnafgplaaGreatDoor
