/- asked: deeds played, then questions. Subject. -/
import Derived.Test.YtmblkpjnafgplaaGreatDoorR20
namespace Go.Proofs.YtmblkpjnafgplaaGreatDoor
open Go Go.RowKit
set_option maxRecDepth 100000
set_option linter.unusedVariables false
set_option linter.unusedSimpArgs false

/-- append onto an own row, in a region that draws -/
theorem step_append_gen {T E size : Nat} {i : TypeInfo} {z : Value} (hu : Tryz.prog.underlying T = some (.slice E)) (hi : Tryz.prog.info? E = some i) (hz : i.zero = some z) (hsz : i.size = size) (hzs : z.cells.size = size) (h0 : 0 < size) (hby : i.bytes ≤ 1000)
    {ops : Array Oper} {o : Oper} {a : Act} {w : World} {K : Act → World → Prop} {Q : Exit → Act → World → Prop} {G : Prop}
    (hg : o.guard = none) (s x : Operand) (hop : o.op = Op.call { callee := Callee.builtin Builtin.append, args := #[s, x], argTypes := #[T, T] })
    (base : Nat) (v : Value) (n : Nat) (xs : List Value) (A : Option Addr) (m c : Nat) (ys : List Value) (hs : a.eval s = v) (hx : a.eval x = .slice A m c) (h : w.ownsRow base E size v n xs) (hA : RowAt w size A m ys) (h1 : ∀ u ∈ ys, u.oneCell' = true) (hbase : base ≤ w.heap.size) (hl : n + m ≤ 140000000000)
    (hK : ∀ v' w', w'.ownsRow base E size v' (n + m) (xs ++ ys) → w.grownBy w' v.ownBlock → K (a.put o.dst v') w') :
    if Region.wanted o (yielded ops a.tmps) = true then Oper.wp Tryz.prog o a w K Q else G := by
  have hw : Region.wanted o (yielded ops a.tmps) = true := by simp [Region.wanted, hg]
  rw [if_pos hw]
  obtain ⟨v', w', hrun, r1, r2⟩ := append_gen hu hi hz hsz hzs h0 hby base v n xs A m c ys w o.type h hA h1 hbase hl
  unfold Oper.wp
  simp [execOp, hop, resolve, invoke, builtin, hs, hx, hrun, Result.andThen]
  exact hK v' w' r1 r2

/-- where a slice of elements begins behind a cut -/
def cutE (size : Nat) (A : Option Addr) (c i : Nat) : Option Addr := if c = i then A else A.map (·.add (i * size))

theorem cutE_at {α : Type} {w : World} {size n c i : Nat} {A : Option Addr} {f : α → List Value} {l : List α} (h : RowAt w size A n (l.flatMap f)) (hf : ∀ x, (f x).length = size) (h0 : 0 < size) (hi : i ≤ n) (hc : n ≤ c) :
    RowAt w size (cutE size A c i) (n - i) ((l.drop i).flatMap f) := by
  have hlen : ∀ l : List α, (l.flatMap f).length = l.length * size := by
    intro l
    induction l with
    | nil => simp
    | cons y t ih => rw [List.flatMap_cons, List.length_append, ih, hf, List.length_cons, Nat.add_mul]; omega
  have hl : l.length = n := by
    have := h.1
    rw [hlen] at this
    exact Nat.eq_of_mul_eq_mul_right h0 this
  have hdrop : (l.drop i).flatMap f = (l.flatMap f).drop (i * size) := by
    have e : l.flatMap f = (l.take i).flatMap f ++ (l.drop i).flatMap f := by rw [← List.flatMap_append, List.take_append_drop]
    rw [e, List.drop_left' (by rw [hlen, List.length_take, hl, Nat.min_eq_left hi])]
  refine ⟨by rw [hlen, List.length_drop, hl], fun hn => ?_⟩
  obtain ⟨ad, rfl, hs, hcell⟩ := h.2 (by omega)
  refine ⟨ad.add (i * size), by simp [cutE, show c ≠ i by omega], ?_, fun j u hu => ?_⟩
  · unfold Addr.add; split <;> simp [hs]
  · rw [hdrop, List.getElem?_drop] at hu
    have := hcell (i * size + j) u hu
    have e1 : (ad.add (i * size)).block = ad.block := by unfold Addr.add; split <;> rfl
    have e2 : (ad.add (i * size)).off = ad.off + i * size := by unfold Addr.add; split <;> simp_all
    rw [e1, e2]
    rw [Nat.add_assoc]; exact this

theorem cut34 (A : Option Addr) (n c i : Nat) (hi : i ≤ n) (w : World) : (Instr.slice 34 (.slice A n c) (some (.int .i64 (i : Int))) none none).run Tryz.prog w = .ok (.slice (cutE 22 A c i) (n - i) (c - i)) w := by
  rw [run_slice_l (P := Tryz.prog) w 34 A n c (by simp [Program.elem, Tryz.underlying34]) .i64 i (by omega) (by omega)]
  simp [Program.elem, Tryz.underlying34, Tryz.sizeOf42, sliced, cutE]

/-- what asked answers -/
def APost (w : World) (a : Ab) (qs : List StepV) (e : Ending) (w' : World) : Prop :=
  ∃ (A' : Option Addr) (c' : Nat) (ts : List TellV), e = .returned (.tuple #[.slice A' qs.length c', .bool true]) ∧ ts.length = qs.length ∧ RowAt w' 22 A' qs.length (ts.flatMap TellV.cells) ∧
    (∀ (q : Nat) (sv : StepV) (t : TellV), qs[q]? = some sv → ts[q]? = some t → Says w' a sv t) ∧ (∀ t ∈ ts, ∀ v ∈ t.cells, Plain v) ∧ Keep NoB w w'

theorem StepOk.keep {w w' : World} {sv : StepV} (h : StepOk w sv) (hk : Keep NoB w w') : StepOk w' sv := by
  rcases h with ⟨h0, h1, h2, h3⟩ | h | h
  · exact .inl ⟨h0, h1, h2.keep hk (fun _ _ _ h => h), h3.keep hk (fun _ _ _ h => h)⟩
  · exact .inr (.inl h)
  · exact .inr (.inr h)

theorem StepV.one (sv : StepV) : ∀ u ∈ sv.cells, u.oneCell' = true := by
  intro v hv
  simp only [List.mem_cons, List.not_mem_nil, or_false] at hv
  rcases hv with rfl | rfl | rfl | rfl | rfl | rfl | rfl | rfl | rfl | rfl | rfl | rfl | rfl | rfl | rfl | rfl
  all_goals rfl
theorem steps_one (l : List StepV) : ∀ u ∈ l.flatMap StepV.cells, u.oneCell' = true := by
  intro u hu
  obtain ⟨s, _, hs⟩ := List.mem_flatMap.1 hu
  exact s.one u hs

theorem row_made46 (w : World) : (w.alloc (.cells #[] 46)).drew.ownsRow w.heap.size 46 16 (.slice (some ⟨w.heap.size, 0, none⟩) 0 0) 0 [] :=
  ⟨rfl, .inr ⟨w.heap.size, 0, #[], rfl, Nat.le_refl _, by show (w.heap.push _)[w.heap.size]? = _; simp, Nat.le_refl _, by decide, rfl, rfl⟩⟩

set_option maxHeartbeats 4000000 in
theorem asked_any {P : Nat → Prop} (hraw : RawLaw P) (hst : StLaw P) (mm mp disc : Nat) (nw : Bool) (hdn : disc = if nw then 1 else 0) (hP : P mp) (hmode : mp = 0 ∨ nw = false) (hmm : mm ≤ 1000) (hmp : mp ≤ 1000) (hd : (nw = false ∧ mm = 0) ∨ (nw = true ∧ 0 < mm))
    (w : World) (er : Errs w) (A B : Option Addr) (l qs : List StepV) (c d : Nat) (hA : RowAt w 16 A l.length (l.flatMap StepV.cells)) (hB : RowAt w 16 B qs.length (qs.flatMap StepV.cells)) (okl : ∀ sv ∈ l, StepOk w sv) (h0 : ∀ sv ∈ l, sv.op = 0) (okq : ∀ sv ∈ qs, StepOk w sv) (hq : ∀ sv ∈ qs, sv.op ≠ 0)
    (hl : l.length ≤ 24) (hql : qs.length ≤ 1000) :
    Calls Tryz.prog 13 #[.agg (cfgC mm mp nw).toArray, .slice A l.length c, .slice B qs.length d] w (APost w (runA ⟨mm, mp, disc, 0, []⟩ l) qs) := by
  have hs := fun (w1 : World) (hk : Keep NoB w w1) (V : Value) (hr : w1.ownsRow w.heap.size 46 16 V (l.length + qs.length) (l.flatMap StepV.cells ++ qs.flatMap StepV.cells)) => show Calls Tryz.prog 9 #[.agg (cfgC mm mp nw).toArray, V] w1 (PPost w1 ⟨mm, mp, disc, 0, []⟩ (l ++ qs)) from by
    obtain ⟨A1, c1, rfl, hc1, _, hra, _⟩ := ownsRow_row hr
    have hlen : (l ++ qs).length = l.length + qs.length := List.length_append
    rw [← hlen] at hra hc1 ⊢
    rw [← List.flatMap_append] at hra
    refine store_any hraw hst mm mp disc nw hdn hP hmode hmm hmp hd w1 (er.keep hk) A1 (l ++ qs) c1 hra hc1 (fun sv hsv => ?_) (by omega) ?_ ?_
    · rcases List.mem_append.1 hsv with h | h
      · exact (okl sv h).keep hk
      · exact (okq sv h).keep hk
    · intro p q s s' hpq h1 h2 h3
      by_cases hqq : q < l.length
      · rw [List.getElem?_append_left (by omega)] at h1
        exact h0 s (List.mem_of_getElem? h1)
      · rw [List.getElem?_append_right (by omega)] at h2
        exact absurd h3 (hq s' (List.mem_of_getElem? h2))
    · intro j
      have h1 := runA_n_le ⟨mm, mp, disc, 0, []⟩ ((l ++ qs).take j)
      have h2 : (((l ++ qs).take j).filter fun s => decide (s.op = 0)).length ≤ ((l ++ qs).filter fun s => decide (s.op = 0)).length := ((List.take_sublist j _).filter _).length_le
      have h3 : ((l ++ qs).filter fun s => decide (s.op = 0)).length ≤ l.length := by
        have e0 : (qs.filter fun s => decide (s.op = 0)) = [] := List.filter_eq_nil_iff.2 (fun s hs => by simpa using hq s hs)
        rw [List.filter_append, List.length_append, e0]
        simpa using List.length_filter_le _ l
      simp only at h1
      omega
  obtain ⟨i46, z46, hi46, hz46, hsz46, hzs46, hby46, _⟩ := info46
  have hkb := (Keep.refl NoB w).alloc (.cells (cfgC mm mp nw).toArray 27)
  have hbox : Blk (w.alloc (.cells (cfgC mm mp nw).toArray 27)) w.heap.size 27 (cfgC mm mp nw).toArray := Blk.new w 27 _
  have SK := Lib.hid (show ∀ W1, Keep NoB (w.alloc (.cells (cfgC mm mp nw).toArray 27)) W1 → W1.cell? ⟨w.heap.size, 0, none⟩ = some (.int .i64 (mm : Int)) ∧ W1.cell? ⟨w.heap.size, 1, none⟩ = some (.int .i64 0) ∧ W1.cell? ⟨w.heap.size, 2, none⟩ = some (.int .i64 (mp : Int)) ∧ W1.cell? ⟨w.heap.size, 3, none⟩ = some (.bool nw) ∧ W1.cell? ⟨w.heap.size, 4, none⟩ = some (.bool false) ∧ W1.cell? ⟨w.heap.size, 5, none⟩ = some (.int .u64 0) from fun W1 hk => by
    have hb := hk.blk hbox (fun h => h)
    refine ⟨?_, ?_, ?_, ?_, ?_, ?_⟩ <;> rw [hb.cell] <;> rfl)
  have hAB := And.intro (hA.keep hkb (fun _ _ _ h => h)) (hB.keep hkb (fun _ _ _ h => h))
  have hbz : w.heap.size ≤ (w.alloc (.cells (cfgC mm mp nw).toArray 27)).heap.size := hkb.size
  have HH := Lib.hid (And.intro hkb (And.intro hAB (And.intro hs hbz)))
  clear hkb hAB hs hbox hA hB okl okq h0 hP hraw hst er hbz
  go_enter Tryz.func13, Tryz.ntmps13
  go_wp2_with fail
  change Code.wp _ _ _ _ (w.alloc (.cells (cfgC mm mp nw).toArray 27))
  generalize w.alloc (.cells (cfgC mm mp nw).toArray 27) = wb at SK HH ⊢
  go_cut [8] (fun v wx => ∃ (A' : Option Addr) (c' : Nat) (ts : List TellV), v = .slice A' (l.length + qs.length) c' ∧ l.length + qs.length ≤ c' ∧ RowAt wx 22 A' (l.length + qs.length) (ts.flatMap TellV.cells) ∧ ts.length = l.length + qs.length ∧
    (∀ (q : Nat) (sv : StepV) (t : TellV), (l ++ qs)[q]? = some sv → ts[q]? = some t → Says wx (runA ⟨mm, mp, disc, 0, []⟩ ((l ++ qs).take q)) sv t) ∧ (∀ t ∈ ts, ∀ v ∈ t.cells, Plain v) ∧ Keep NoB w wx)
  case first =>
    go_region_held3? (fun W1 => W1.cell? ⟨w.heap.size, 0, none⟩ = some (.int .i64 (mm : Int)) ∧ W1.cell? ⟨w.heap.size, 1, none⟩ = some (.int .i64 0) ∧ W1.cell? ⟨w.heap.size, 2, none⟩ = some (.int .i64 (mp : Int)) ∧ W1.cell? ⟨w.heap.size, 3, none⟩ = some (.bool nw) ∧ W1.cell? ⟨w.heap.size, 4, none⟩ = some (.bool false) ∧ W1.cell? ⟨w.heap.size, 5, none⟩ = some (.int .u64 0))
      (first | (have hx := H5; exact SK.out _ H5.out.2) | (have hx := H2; exact SK.out _ H2.out.2) | (have hx := H1; exact SK.out _ H1.out.2) | exact SK.out _ (by repeat (first | with_reducible exact Keep.refl _ _ | with_reducible refine Keep.alloc ?_ _ | with_reducible refine Keep.drew ?_)))
      (first
        | (have hx := H2; go_at_call 9; refine (HH.out.2.2.1 _ (HH.out.1.none_trans H2.out.2) _ ⟨H2.out.1.1, H2.out.1.2.imp id (fun ⟨g, cap, cur, e, hb, r⟩ => ⟨g, cap, cur, e, Nat.le_trans HH.out.2.2.2 hb, r⟩)⟩).mono ?_; rintro e w5 ⟨A', c', ts, rfl, h1, h2, h3, h4, h5, h6⟩; have H5 := Lib.hid (And.intro (And.intro h1 (And.intro h2 (And.intro h3 (And.intro h4 h5)))) (H2.out.2.none_trans h6)); clear h1 h2 h3 h4 h5 h6)
        | (have hx := H1; refine step_append_gen Tryz.underlying22 hi46 hz46 hsz46 hzs46 (by decide) hby46 rfl (.tmp 12) (.tmp 13) rfl wb.heap.size _ l.length (l.flatMap StepV.cells) B qs.length d (qs.flatMap StepV.cells) (by rfl) (by rfl) H1.out.1 (HH.out.2.1.2.keep H1.out.2 (fun _ _ _ h => h)) (steps_one qs) H1.out.2.size (by omega) ?_; intro v2 w2 hr2 hg2; have H2 := Lib.hid (And.intro hr2 (H1.out.2.own (Keep.of_grown hg2) (fun k e => own_ge H1.out.1 k e))); clear hr2 hg2)
        | (refine step_append_gen Tryz.underlying22 hi46 hz46 hsz46 hzs46 (by decide) hby46 rfl (.tmp 10) (.tmp 11) rfl wb.heap.size _ 0 [] A l.length c (l.flatMap StepV.cells) (by rfl) (by rfl) (row_made46 wb) (HH.out.2.1.1.keep ((Keep.refl NoB wb).alloc _).drew (fun _ _ _ h => h)) (steps_one l) ((Keep.refl NoB wb).alloc (.cells #[] 46)).size (by omega) ?_; intro v1 w1 hr1 hg1; have H1 := Lib.hid (And.intro (show w1.ownsRow wb.heap.size 46 16 v1 l.length (l.flatMap StepV.cells) by simpa using hr1) ((((Keep.refl NoB wb).alloc (.cells #[] 46)).drew).own (Keep.of_grown hg1) (fun k e => own_ge (row_made46 wb) k e))); clear hr1 hg1))
    all_goals
      go_wp2_with fail
      go_meet
      obtain ⟨⟨h1, h2, h3, h4, h5⟩, h6⟩ := H5.out
      rw [List.length_append] at h1 h2 h3
      exact ⟨A', c', ts, rfl, h1, h3, h2, h4, h5, HH.out.1.none_trans h6⟩
  case rest =>
    obtain ⟨A', c', ts, rfl, h1, h2, h3, h4, h5, h6⟩ := hcut
    have hcut := cut34 A' (l.length + qs.length) c' l.length (by omega)
    have h0 : (0 : Int) ≤ (l.length : Int) := Int.natCast_nonneg _
    have HF := Lib.hid (And.intro h2 (And.intro h3 (And.intro h4 (And.intro h5 (And.intro h6 h1)))))
    have HQ := Lib.hid hq
    clear h1 h2 h3 h4 h5 h6 SK HH hq
    go_wp2_with fail
    go_ret2
    obtain ⟨h2, h3, h4, h5, h6, h1⟩ := HF.out
    refine ⟨_, _, ts.drop l.length, rfl, by rw [List.length_drop]; omega, ?_, fun q sv t e1 e2 => ?_, fun t ht => h5 t (List.mem_of_mem_drop ht), h6⟩
    · have := cutE_at h2 (fun _ => rfl) (by decide) (i := l.length) (by omega) h1
      rwa [Nat.add_sub_cancel_left] at this
    · rw [List.getElem?_drop] at e2
      have h := h4 (l.length + q) sv t (by rw [List.getElem?_append_right (by omega), Nat.add_sub_cancel_left]; exact e1) e2
      have e3 : (l ++ qs).take (l.length + q) = l ++ qs.take q := by rw [List.take_length_add_append]
      rw [e3, runA_two, runA_ask _ _ (fun s hs => HQ.out s (List.mem_of_mem_take hs))] at h
      exact h

end Go.Proofs.YtmblkpjnafgplaaGreatDoor

namespace Go.Proofs.YtmblkpjnafgplaaGreatDoor
open Go Go.RowKit
set_option maxRecDepth 100000
set_option linter.unusedVariables false
set_option linter.unusedSimpArgs false

def GoodC (c : UInt8) : Prop := (97 ≤ c.toNat ∧ c.toNat ≤ 122) ∨ (48 ≤ c.toNat ∧ c.toNat ≤ 57)
def GoodT (x : Bs) : Prop := x ≠ [] ∧ x.length ≤ 8 ∧ ∀ c ∈ x, GoodC c
/-- what is told of a subject that is one -/
def GoodS (s : Bs) : Prop := s ≠ [] ∧ s.length ≤ 4096 ∧ 127 ∉ s

theorem goodS_of {ts : List Bs} {cur : Bs} {s : Bs} (hj : joinT ts cur = s) (hg : ∀ x ∈ ts ++ [cur], GoodT x) (hn : ts.length + 1 ≤ 6) : GoodS s := by
  have hc := hg cur (by simp)
  have hlen : ∀ l : List Bs, (∀ x ∈ l, GoodT x) → (l.flatMap (fun t => t ++ [46])).length ≤ 9 * l.length := by
    intro l
    induction l with
    | nil => intro _; simp
    | cons x l ih =>
      intro h
      have h1 := (h x (by simp)).2.1
      have h2 := ih (fun y hy => h y (by simp [hy]))
      simp only [List.flatMap_cons, List.length_append, List.length_cons, List.length_nil] at h2 ⊢
      omega
  subst hj
  unfold joinT
  refine ⟨?_, ?_, ?_⟩
  · intro h
    rw [List.append_eq_nil_iff] at h
    exact hc.1 h.2
  · have h1 := hlen ts (fun x hx => hg x (by simp [hx]))
    have h2 := hc.2.1
    rw [List.length_append]
    omega
  · intro h
    have no : ∀ x, GoodT x → (127 : UInt8) ∉ x := fun x hx h => by
      have := hx.2.2 _ h
      unfold GoodC at this
      have h7 : (127 : UInt8).toNat = 127 := rfl
      omega
    rcases List.mem_append.1 h with h | h
    · obtain ⟨x, hx, hy⟩ := List.mem_flatMap.1 h
      rcases List.mem_append.1 hy with hy | hy
      · exact no x (hg x (by simp [hx])) hy
      · simp at hy
    · exact no cur hc h

/-- a truth value; where it is true the subject is one -/
def SubjP (s : Bs) (w : World) (e : Ending) (w' : World) : Prop := ∃ b, e = .returned (.bool b) ∧ Keep NoB w w' ∧ (b = true → GoodS s)

set_option maxHeartbeats 4000000 in
theorem subject_any (s : Bs) (w : World) (hl : s.length ≤ 2147483647) : Calls Tryz.prog 22 #[str s, .bool false] w (SubjP s w) := by
  have HT := Lib.hid (tokens_any s w hl)
  go_enter Tryz.func22, Tryz.ntmps22
  go_wp2_with fail
  refine HT.out.mono ?_
  rintro e w1 ⟨v, ts, cur, rfl, hrow, hj, hk⟩
  obtain ⟨A, c, rfl, hc, _, hra, _⟩ := ownsRow_row hrow
  have hsm : ts.length + 1 ≤ 2147483648 := by
    have : (joinT ts cur).length = s.length := by rw [hj]
    have h2 : ts.length ≤ (joinT ts cur).length := by
      unfold joinT
      rw [List.length_append]
      have : ∀ l : List Bs, l.length ≤ (l.flatMap (fun t => t ++ [46])).length := by
        intro l
        induction l with
        | nil => simp
        | cons x l ih => simp only [List.flatMap_cons, List.length_append, List.length_cons, List.length_nil]; simp only [List.length_flatMap, List.length_append] at ih ⊢; omega
      have := this ts
      omega
    omega
  have HR := Lib.hid (And.intro hra (And.intro hj hk))
  clear hra hj hk hrow
  generalize hn : ts.length + 1 = n at *
  have HN := Lib.hid hn
  clear hn
  go_wp2_with fail
  go_loop [6, 7, 8] (fun i t k => ∃ j : Nat, i = .int .i64 (j : Int) ∧ j ≤ n ∧ ∀ q x, q < j → (ts ++ [cur])[q]? = some x → GoodT x) (fun i _ _ => n - (intOf i).toNat)
  case atStart => exact ⟨0, rfl, Nat.zero_le _, fun q x h => by omega⟩
  case round =>
    obtain ⟨j, rfl, hj, hg⟩ := hrel
    have HG := Lib.hid hg
    clear hg
    by_cases hlt : j < n
    · obtain ⟨x, hx⟩ : ∃ x, (ts ++ [cur])[j]? = some x := ⟨(ts ++ [cur])[j]'(by simp; rw [HN.out]; exact hlt), List.getElem?_eq_getElem _⟩
      obtain ⟨⟨a, oa, sa⟩, u, rfl, hsa, hu, hca⟩ := HR.out.1.at_ hlt
      simp only at hsa hca
      subst hsa
      rw [List.getElem?_map, hx] at hu
      simp only [Option.map_some, Option.some.injEq] at hu
      subst hu
      have HX := Lib.hid hx
      clear hx
      have h0 : (0 : Int) ≤ (j : Int) := Int.natCast_nonneg _
      have h1 : (j : Int) < (n : Int) := by omega
      by_cases hxe : x = [] ∨ 8 < x.length
      · rcases hxe with rfl | h8
        · go_wp2_with fail
          go_ret
          exact ⟨false, rfl, HR.out.2.2, fun h => by cases h⟩
        · have h8' : (8 : Int) < (x.length : Int) := by omega
          have hlb : ByteArray.size ⟨x.toArray⟩ = x.length := by simp [ByteArray.size]
          go_wp2_with fail
          all_goals
            go_ret
            exact ⟨false, rfl, HR.out.2.2, fun h => by cases h⟩
      · have hx0 : x ≠ [] := fun e => hxe (.inl e)
        have hx8 : x.length ≤ 8 := by
          rcases Nat.lt_or_ge 8 x.length with h | h
          · exact absurd (.inr h) hxe
          · exact h
        clear hxe
        have hlb : ByteArray.size ⟨x.toArray⟩ = x.length := by simp [ByteArray.size]
        have hxe0 : List.isEmpty x = false := by
          cases x with
          | nil => exact absurd rfl hx0
          | cons y l => rfl
        have hx8' : (x.length : Int) ≤ 8 := by omega
        have HXX := Lib.hid (And.intro hx0 hx8)
        clear hx0
        go_wp2_with fail
        go_loop [8] (fun k => ∃ m : Nat, k = .int .i64 (m : Int) ∧ m ≤ x.length ∧ ∀ c ∈ x.take m, GoodC c) (fun k => x.length - (intOf k).toNat)
        case atStart => exact ⟨0, rfl, Nat.zero_le _, fun c hc => by simp at hc⟩
        case round =>
          obtain ⟨m, rfl, hm, hgc⟩ := hrel
          have HGC := Lib.hid hgc
          clear hgc
          by_cases hlt2 : m < x.length
          · have g0 : (0 : Int) ≤ (m : Int) := Int.natCast_nonneg _
            have g1 : (m : Int) < (x.length : Int) := by omega
            have hgt : m < ByteArray.size ⟨x.toArray⟩ := by rw [hlb]; exact hlt2
            go_wp2_with fail
            all_goals first
              | (go_ret; exact ⟨false, rfl, HR.out.2.2, fun h => by cases h⟩)
              | (refine ⟨⟨m + 1, by go_num, by omega, fun c hc => ?_⟩, by simp [intOf]; omega⟩
                 rw [List.take_succ_eq_append_getElem hlt2] at hc
                 rcases List.mem_append.1 hc with hc | hc
                 · exact HGC.out c hc
                 · simp only [List.mem_singleton] at hc
                   subst hc
                   show GoodC (({ data := x.toArray } : ByteArray)[m]'hgt)
                   unfold GoodC
                   omega)
          · go_wp2_with fail
            refine ⟨⟨j + 1, by go_num, by omega, fun q y hq hy => ?_⟩, by simp [intOf]; omega⟩
            by_cases hqj : q = j
            · subst hqj
              rw [HX.out] at hy
              injection hy with hy
              subst hy
              obtain rfl : m = x.length := by omega
              exact ⟨HXX.out.1, HXX.out.2, fun c hc => HGC.out c (by rw [List.take_length]; exact hc)⟩
            · exact HG.out q y (by omega) hy
    · have HH : ∀ q x, (ts ++ [cur])[q]? = some x → GoodT x := fun q x hx => HG.out q x (by have := (List.getElem?_eq_some_iff.1 hx).1; simp at this; have := HN.out; omega) hx
      have HH2 := Lib.hid HH
      clear HH
      go_wp2_with fail
      go_ret
      refine ⟨decide ((n : Int) ≤ 6), rfl, HR.out.2.2, fun hb => goodS_of HR.out.2.1 (fun x hx => ?_) ?_⟩
      · obtain ⟨q, hq⟩ := List.getElem?_of_mem hx
        exact HH2.out q x hq
      · have := of_decide_eq_true hb
        have := HN.out
        omega

end Go.Proofs.YtmblkpjnafgplaaGreatDoor
