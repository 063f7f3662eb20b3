/- The script's player: laws of its parts. Store: a script played. What deeds leave behind, where no subject has a limit: plain laws. Plain laws: messages by their numbers, those below a number; the last ones of each subject. Tokens. sameMsgs, where what is compared is alike. -/
import Derived.Test.YtmblkpjnafgplaaGreatDoorR19
import Derived.Test.YtmblkpjnafgplaaGreatDoorR16
import Derived.Great.BuildSlice
import Derived.Deep.LoopGhost
import Derived.WalkSpells
import Derived.WalkLawsBesides
import Derived.Test.YtmblkpjnafgplaaGreatDoorR15
import Derived.StillTailTactics
namespace Go.Proofs.YtmblkpjnafgplaaGreatDoor
open Go Go.RowKit
set_option maxRecDepth 100000
set_option linter.unusedVariables false
set_option linter.unusedSimpArgs false

theorem ses_clock {w0 w : World} {ms : Nat} {a : Ab} (s : Ses w0 w ms a) (t : Int) : Calls Tryz.prog 16 #[.pointer (some ⟨ms, 0, none⟩), .int .i64 t] w fun e w' => e = .returned (.tuple #[]) ∧ Ses w0 w' ms a ∧ Keep (fun k => k = ms) w w' := by
  obtain ⟨h, its, M, F, S, hl, a1, a2, a3, a4, a5, a6, a7, a8, a9⟩ := s
  refine (setClock_any S.hd t).mono ?_
  rintro e w' ⟨rfl, hb, hk⟩
  exact ⟨rfl, ⟨{ h with ck := t }, its, M, F, S.turn hk hb ⟨rfl, rfl, rfl, rfl, rfl, rfl, rfl, rfl, rfl, rfl⟩, hl, a1, a2, a3, a4, a5, a6, a7, a8, a9.own hk (fun k e => by rw [e]; exact a8 ms (.inl rfl))⟩, hk⟩

/-- an own row stands where its block does -/
theorem ownsRow_keep {w w' : World} {base E size n : Nat} {v : Value} {xs : List Value} {F : Nat → Prop} (h : w.ownsRow base E size v n xs) (hk : Keep F w w') (hF : ∀ g C, Blk w g E C → ¬ F g) : w'.ownsRow base E size v n xs := by
  refine ⟨h.1, h.2.imp id ?_⟩
  rintro ⟨g, cap, cur, e, hb, hg, hr⟩
  exact ⟨g, cap, cur, e, hb, hk.obj hg (hF g cur hg), hr⟩

theorem ownsRow_row {w : World} {base E size n : Nat} {v : Value} {xs : List Value} (h : w.ownsRow base E size v n xs) : ∃ A c, v = .slice A n c ∧ n ≤ c ∧ c ≤ maxLen ∧ RowAt w size A n xs ∧ ∀ k, blkOf A k → base ≤ k ∧ k < w.heap.size := by
  have hl := h.1
  rcases h.2 with ⟨rfl, h0⟩ | ⟨g, cap, cur, rfl, hb, hg, hnc, hcm, hcs, ht⟩
  · subst h0
    exact ⟨none, 0, rfl, Nat.le_refl _, by decide, ⟨by simpa using hl, fun hn => by omega⟩, fun k hk => by obtain ⟨ad, e, _⟩ := hk; cases e⟩
  · have hlt : g < w.heap.size := (Array.getElem?_eq_some_iff.1 hg).1
    refine ⟨some ⟨g, 0, none⟩, cap, rfl, hnc, hcm, ⟨hl, fun _ => ⟨_, rfl, rfl, fun j u hj => ?_⟩⟩, fun k hk => ?_⟩
    · have := h.cells (g := g) rfl j u hj
      rwa [show (⟨g, 0, none⟩ : Addr).add j = ⟨g, 0 + j, none⟩ from Addr.add_lit ..] at this
    · obtain ⟨ad, e, rfl⟩ := hk
      injection e with e; subst e
      exact ⟨hb, hlt⟩

theorem append_gen {T E size : Nat} {i : TypeInfo} {z : Value} (hu : Tryz.prog.underlying T = some (.slice E)) (hi : Tryz.prog.info? E = some i) (hz : i.zero = some z) (hsz : i.size = size) (hzs : z.cells.size = size) (h0 : 0 < size) (hby : i.bytes ≤ 1000)
    (base : Nat) (v : Value) (n : Nat) (xs : List Value) (A : Option Addr) (m c : Nat) (ys : List Value) (w : World) (ty : TypeId) (h : w.ownsRow base E size v n xs) (hA : RowAt w size A m ys) (h1 : ∀ u ∈ ys, u.oneCell' = true) (hbase : base ≤ w.heap.size) (hl : n + m ≤ 140000000000) :
    ∃ v' w', (Builtin.append_ #[T, T] ty #[v, .slice A m c]).run Tryz.prog w = .ok v' w' ∧ w'.ownsRow base E size v' (n + m) (xs ++ ys) ∧ w.grownBy w' v.ownBlock := by
  have hbytes : (n + m) * i.bytes ≤ 140737488355328 := Nat.le_trans (Nat.mul_le_mul hl hby) (by decide)
  have hmx : n + m ≤ maxLen := by unfold maxLen; omega
  have some_ : ∀ ad : Addr, (∀ j u, ys[j]? = some u → w.cell? (ad.add j) = some u) → ∃ v' w', (Builtin.append_ #[T, T] ty #[v, .slice (some ad) m c]).run Tryz.prog w = .ok v' w' ∧ w'.ownsRow base E size v' (n + m) (xs ++ ys) ∧ w.grownBy w' v.ownBlock := by
    intro ad hc
    obtain ⟨v', w', r1, r2, r3, _⟩ := run_append_own (P := Tryz.prog) w base T ty E i z size i.bytes hu hi hz hsz rfl hzs h0 v n xs h ad m c ys hA.1 hc h1 hmx hbytes hbase
    exact ⟨v', w', r1, r2, r3⟩
  rcases Nat.eq_zero_or_pos m with rfl | hpos
  · have hy : ys = [] := List.eq_nil_of_length_eq_zero (by have := hA.1; omega)
    subst hy
    cases A with
    | some ad => exact some_ ad (fun j u hj => by simp at hj)
    | none =>
      refine ⟨v, w, ?_, by simpa using h, ⟨rfl, rfl, rfl, Nat.le_refl _, fun _ _ _ => rfl⟩⟩
      rcases h.2 with ⟨rfl, h0⟩ | ⟨g, cap, cur, rfl, hb, hg, hnc, hcm, hcs, ht⟩
      · simp [Builtin.append_, run_underlying hu, sizeOf, typeInfo, hi, Builtin.lenOf, Builtin.firstCells]
      · simp [Builtin.append_, run_underlying hu, sizeOf, typeInfo, hi, Builtin.lenOf, Builtin.firstCells, hnc, storeCells]
  · obtain ⟨⟨ab, ao, as_⟩, rfl, rfl, hc⟩ := hA.2 hpos
    exact some_ _ (fun j u hj => by rw [Addr.add_lit]; exact hc j u hj)

theorem wpList_append_gen {T E size : Nat} {i : TypeInfo} {z : Value} (hu : Tryz.prog.underlying T = some (.slice E)) (hi : Tryz.prog.info? E = some i) (hz : i.zero = some z) (hsz : i.size = size) (hzs : z.cells.size = size) (h0 : 0 < size) (hby : i.bytes ≤ 1000)
    {w : World} {ops : Array Oper} {rest : List Oper} {o : Oper} {a : Act} {Q : Exit → Act → World → Prop}
    (hg : o.guard = none) (s x : Operand) (hop : o.op = Op.call { callee := Callee.builtin Builtin.append, args := #[s, x], argTypes := #[T, T] })
    (base : Nat) (v : Value) (n : Nat) (xs : List Value) (A : Option Addr) (m c : Nat) (ys : List Value) (hs : a.eval s = v) (hx : a.eval x = .slice A m c) (h : w.ownsRow base E size v n xs) (hA : RowAt w size A m ys) (h1 : ∀ u ∈ ys, u.oneCell' = true) (hbase : base ≤ w.heap.size) (hl : n + m ≤ 140000000000)
    (hk : ∀ v' w', w'.ownsRow base E size v' (n + m) (xs ++ ys) → w.grownBy w' v.ownBlock → wpList Tryz.prog ops Q rest (a.put o.dst v') w') :
    wpList Tryz.prog ops Q (o :: rest) a w := by
  refine wpList_plain hg fun K hK' => ?_
  obtain ⟨v', w', hrun, r1, r2⟩ := append_gen hu hi hz hsz hzs h0 hby base v n xs A m c ys w o.type h hA h1 hbase hl
  unfold Oper.wp
  simp [execOp, hop, resolve, invoke, builtin, hs, hx, hrun, Result.andThen]
  exact hK' _ _ (hk v' w' r1 r2)

theorem wpList_build1 {T E : Nat} {i : TypeInfo} {z : Value} (hu : Tryz.prog.underlying T = some (.slice E)) (hi : Tryz.prog.info? E = some i) (hz : i.zero = some z) (hsmall : ¬ 1 * i.size > 2 ^ 24) (hpos : ¬ 1 * i.size = 0)
    {w : World} {ops : Array Oper} {rest : List Oper} {o : Oper} {a : Act} {Q : Exit → Act → World → Prop} (hg : o.guard = none) (x : Operand) (hop : o.op = .buildSlice T 1 #[(0, x)]) (cs : Array Value) (v : Value) (hx : a.eval x = v)
    (hf : Instr.fill (fun j => some (j * i.size, i.size)) ((Array.range (1 * i.size)).map (z.cells[· % z.cells.size]!)) [(0, v)] = some cs)
    (hgo : ∀ w', Blk w' w.heap.size E cs → Keep NoB w w' → wpList Tryz.prog ops Q rest (a.put o.dst (.slice (some ⟨w.heap.size, 0, none⟩) 1 1)) w') :
    wpList Tryz.prog ops Q (o :: rest) a w :=
  wpList_buildSlice hg T E 1 #[(0, x)] hop cs i z hu hi hz hsmall hpos (by simpa [hx] using hf) (hgo _ (Blk.new w E cs) ((Keep.refl NoB w).alloc _))

theorem info42 : ∃ (i : TypeInfo) (z : Value), Tryz.prog.info? 42 = some i ∧ i.zero = some z ∧ i.size = 22 ∧ z.cells.size = 22 ∧ i.bytes ≤ 1000 ∧ (∀ t : TellV, Instr.fill (fun j => some (j * i.size, i.size)) ((Array.range (1 * i.size)).map (z.cells[· % z.cells.size]!)) [(0, t.val)] = some t.cells.toArray) :=
  ⟨_, _, rfl, rfl, rfl, rfl, by decide, fun t => by kernel_rfl⟩

theorem info46 : ∃ (i : TypeInfo) (z : Value), Tryz.prog.info? 46 = some i ∧ i.zero = some z ∧ i.size = 16 ∧ z.cells.size = 16 ∧ i.bytes ≤ 1000 ∧ (∀ t : StepV, Instr.fill (fun j => some (j * i.size, i.size)) ((Array.range (1 * i.size)).map (z.cells[· % z.cells.size]!)) [(0, t.val)] = some t.cells.toArray) :=
  ⟨_, _, rfl, rfl, rfl, rfl, by decide, fun t => by kernel_rfl⟩

/-- a block as a row of one element -/
theorem Blk.row1 {w : World} {g size t : Nat} {cs : List Value} (h : Blk w g t cs.toArray) (hs : cs.length = size) : RowAt w size (some ⟨g, 0, none⟩) 1 cs :=
  ⟨by omega, fun _ => ⟨_, rfl, rfl, fun j u hu => by rw [Nat.zero_add, h.cell]; simpa using hu⟩⟩

/-- an element of a row -/
theorem RowAt.elem {α : Type} {w : World} {size n : Nat} {A : Option Addr} {f : α → List Value} {l : List α} (h : RowAt w size A n (l.flatMap f)) (hf : ∀ x, (f x).length = size) (h0 : 0 < size) {j : Nat} {x : α} (hj : l[j]? = some x) :
    ∃ b o, A = some ⟨b, o, none⟩ ∧ w.rangeAt b (o + j * size) (f x) := by
  have hlen : (l.flatMap f).length = l.length * size := by
    clear h hj
    induction l with
    | nil => simp
    | cons y t ih => rw [List.flatMap_cons, List.length_append, ih, hf, List.length_cons]; rw [Nat.add_mul]; omega
  have hjl : j < l.length := (List.getElem?_eq_some_iff.1 hj).1
  have hn : 0 < n := by
    have := h.1; rw [hlen] at this
    rcases Nat.eq_zero_or_pos n with e | e
    · subst e
      have : 0 < l.length * size := Nat.mul_pos (by omega) h0
      omega
    · exact e
  obtain ⟨⟨b, o, sp⟩, rfl, hsp, hc⟩ := h.2 hn
  simp only at hsp; subst hsp
  refine ⟨b, o, rfl, fun k u hk => ?_⟩
  have hkk : (l.flatMap f)[j * size + k]? = some u := by
    have hks : k < size := by have := (List.getElem?_eq_some_iff.1 hk).1; rw [hf] at this; exact this
    clear h hc hlen hjl
    induction l generalizing j with
    | nil => cases hj
    | cons y t ih =>
      rw [List.flatMap_cons]
      cases j with
      | zero =>
        simp only [List.getElem?_cons_zero, Option.some.injEq] at hj
        subst hj
        rw [Nat.zero_mul, Nat.zero_add, List.getElem?_append_left (by rw [hf]; exact hks)]
        exact hk
      | succ j =>
        rw [List.getElem?_append_right (by rw [hf, Nat.add_mul]; omega), hf]
        rw [show (j + 1) * size + k - size = j * size + k by rw [Nat.add_mul]; omega]
        exact ih (by simpa using hj)
  have := hc _ u hkk
  simpa [Nat.add_assoc] using this

end Go.Proofs.YtmblkpjnafgplaaGreatDoor

namespace Go.Proofs.YtmblkpjnafgplaaGreatDoor
open Go Go.RowKit
set_option maxRecDepth 100000
set_option linter.unusedVariables false
set_option linter.unusedSimpArgs false

/-- the store behind a step -/
def nextA (a : Ab) (sv : StepV) : Ab := if sv.op = 0 then a.put sv.rc else a
def runA (a : Ab) (l : List StepV) : Ab := l.foldl nextA a

theorem nextA_mp (a : Ab) (sv : StepV) : (nextA a sv).mp = a.mp := by
  unfold nextA; split
  · unfold Ab.put; split <;> rfl
  · rfl
theorem runA_mp (a : Ab) (l : List StepV) : (runA a l).mp = a.mp := by
  induction l generalizing a with
  | nil => rfl
  | cons s t ih => exact (ih _).trans (nextA_mp a s)
theorem runA_snoc (a : Ab) (l : List StepV) (j : Nat) (sv : StepV) (h : l[j]? = some sv) : runA a (l.take (j + 1)) = nextA (runA a (l.take j)) sv := by
  obtain ⟨hj, rfl⟩ := List.getElem?_eq_some_iff.1 h
  rw [List.take_succ_eq_append_getElem hj]
  show List.foldl nextA a (l.take j ++ [l[j]]) = _
  rw [List.foldl_append]; rfl

/-- what a step's answer says -/
def Says (w : World) (a : Ab) (sv : StepV) (t : TellV) : Prop :=
  (sv.op = 0 → t.k = if a.full then 1 else 0) ∧
  (sv.op = 32 → t.k = 0 ∧ t.s2 = .int .u64 (a.fst : Int) ∧ t.s3 = .int .u64 (a.n : Int)) ∧
  (∀ k : Nat, sv.op = 20 → sv.seq = k → ((∃ rc, (k, rc) ∈ a.l ∧ t.k = 0 ∧ MsgV w [t.m0, t.m1, t.m2, t.m3, t.m4] k rc) ∨ ((∀ rc, (k, rc) ∉ a.l) ∧ t.k = 1)))

/-- what is asked of a step -/
def StepOk (w : World) (sv : StepV) : Prop :=
  (sv.op = 0 ∧ sv.rc.Ok ∧ RowAt w 1 sv.hA sv.hdr.length (sv.hdr.map byteV) ∧ RowAt w 1 sv.dA sv.dat.length (sv.dat.map byteV)) ∨ sv.op = 32 ∨ (sv.op = 20 ∧ ∃ k : Nat, sv.seq = k)

/-- the loop's relation -/
def PInv (wB : World) (ms : Nat) (a0 : Ab) (ss : List StepV) (out i : Value) (wr : World) : Prop :=
  ∃ (j : Nat) (ts : List TellV), i = .int .i64 (j : Int) ∧ j ≤ ss.length ∧ ts.length = j ∧ wr.ownsRow wB.heap.size 42 22 out j (ts.flatMap TellV.cells) ∧ Ses wB wr ms (runA a0 (ss.take j)) ∧
    (∀ (q : Nat) (sv : StepV) (t : TellV), ss[q]? = some sv → ts[q]? = some t → Says wr (runA a0 (ss.take q)) sv t) ∧ (∀ t ∈ ts, ∀ v ∈ t.cells, Plain v)

theorem ty5_ms {w0 w : World} {ms : Nat} {a : Ab} (s : Ses w0 w ms a) : ∀ k, k < w.heap.size → k = ms → ∃ t C, Blk w k t C ∧ t ≠ 5 := by
  obtain ⟨h, its, M, F, S, _⟩ := s
  rintro k _ rfl
  exact ⟨87, _, S.hd, by decide⟩

theorem Says.far {w w' : World} {a : Ab} {sv : StepV} {t : TellV} {G : Nat → Prop} (h : Says w a sv t) (hk : Keep G w w') (hG : ∀ k, k < w.heap.size → G k → ∃ t C, Blk w k t C ∧ t ≠ 5) : Says w' a sv t :=
  ⟨h.1, h.2.1, fun k h1 h2 => (h.2.2 k h1 h2).imp (fun ⟨rc, q1, q2, q3⟩ => ⟨rc, q1, q2, q3.far hk hG⟩) id⟩

theorem ses_ne42 {w0 w : World} {ms : Nat} {a : Ab} (s : Ses w0 w ms a) : ∀ g C, Blk w g 42 C → ¬ g = ms := by
  obtain ⟨h, its, M, F, S, _⟩ := s
  rintro g C hb rfl
  have := (S.hd.inj hb).2
  cases this
theorem ses_keep0 {w0 w : World} {ms : Nat} {a : Ab} (s : Ses w0 w ms a) : Keep NoB w0 w ∧ w0.heap.size ≤ ms := by
  obtain ⟨h, its, M, F, S, _, _, _, _, _, _, _, _, a8, k⟩ := s
  exact ⟨k, a8 ms (.inl rfl)⟩
theorem Errs.keep {w w' : World} (e : Errs w) (hk : Keep NoB w w') : Errs w' := by
  obtain ⟨l, ⟨t2, v2, h2⟩, ⟨t3, v3, h3⟩, ⟨t5, v5, h5⟩, ht⟩ := e
  exact ⟨Nat.lt_of_lt_of_le l hk.size, ⟨t2, v2, hk.cellS h2 (fun h => h)⟩, ⟨t3, v3, hk.cellS h3 (fun h => h)⟩, ⟨t5, v5, hk.cellS h5 (fun h => h)⟩, fun j hj => hk.cellS (ht j hj) (fun h => h)⟩

/-- of a deed's answer nothing lies in memory -/
theorem Says.deed {w w' : World} {a : Ab} {sv : StepV} {t : TellV} (h : Says w a sv t) (h0 : sv.op = 0) : Says w' a sv t :=
  ⟨h.1, h.2.1, fun k h1 _ => by rw [h0] at h1; cases h1⟩

/-- the relation behind a round -/
theorem PInv.step {wB w2 : World} {ms : Nat} {a0 : Ab} {ss : List StepV} {out' : Value} {j : Nat} {ts : List TellV} {sv : StepV} {t : TellV} (hj : ss[j]? = some sv) (hl : ts.length = j)
    (hrow : w2.ownsRow wB.heap.size 42 22 out' (j + 1) (ts.flatMap TellV.cells ++ t.cells)) (hs : Ses wB w2 ms (runA a0 (ss.take (j + 1))))
    (hsay : ∀ (q : Nat) (s : StepV) (u : TellV), ss[q]? = some s → ts[q]? = some u → Says w2 (runA a0 (ss.take q)) s u) (hnew : Says w2 (runA a0 (ss.take j)) sv t) (hp : ∀ t ∈ ts, ∀ v ∈ t.cells, Plain v) (hpt : ∀ v ∈ t.cells, Plain v) :
    PInv wB ms a0 ss out' (.int .i64 ((j : Int) + 1)) w2 := by
  refine ⟨j + 1, ts ++ [t], by simp, (List.getElem?_eq_some_iff.1 hj).1, by simp [hl], by simpa using hrow, hs, ?_, ?_⟩
  · intro q s u h1 h2
    by_cases hq : q < ts.length
    · exact hsay q s u h1 (by rwa [List.getElem?_append_left hq] at h2)
    · rw [List.getElem?_append_right (by omega)] at h2
      have hq2 : q - ts.length = 0 := by
        have := (List.getElem?_eq_some_iff.1 h2).1
        simp at this; omega
      rw [hq2] at h2
      simp at h2
      have : q = j := by omega
      subst this
      rw [hj] at h1
      injection h1 with h1
      subst h1; subst h2
      exact hnew
  · intro u hu
    rcases List.mem_append.1 hu with hu | hu
    · exact hp u hu
    · simp at hu; subst hu; exact hpt

theorem ownsRow_other {w : World} {base n : Nat} {v : Value} {xs : List Value} (h : w.ownsRow base 42 22 v n xs) : ∀ k, some k = v.ownBlock → Other w k ∧ base ≤ k := by
  intro k hk
  rcases h.2 with ⟨rfl, _⟩ | ⟨g, cap, cur, rfl, hb, hg, _⟩
  · cases hk
  · injection hk with hk
    simp only at hk
    subst hk
    exact ⟨⟨42, cur, hg, .inl rfl⟩, hb⟩

/-- what was told, put behind the rest -/
theorem PInv.app {wB w3 w4 w5 : World} {ms : Nat} {a0 : Ab} {ss : List StepV} {out out' : Value} {j : Nat} {ts : List TellV} {sv : StepV} {t : TellV} (hj : ss[j]? = some sv) (hl : ts.length = j)
    (h3 : w3.ownsRow wB.heap.size 42 22 out j (ts.flatMap TellV.cells)) (hk4 : Keep NoB w3 w4) (hrow : w5.ownsRow wB.heap.size 42 22 out' (j + 1) (ts.flatMap TellV.cells ++ t.cells)) (hg : w4.grownBy w5 out.ownBlock)
    (hs : Ses wB w3 ms (runA a0 (ss.take (j + 1)))) (hsay : ∀ (q : Nat) (s : StepV) (u : TellV), ss[q]? = some s → ts[q]? = some u → Says w3 (runA a0 (ss.take q)) s u) (hnew : Says w3 (runA a0 (ss.take j)) sv t)
    (hp : ∀ t ∈ ts, ∀ v ∈ t.cells, Plain v) (hpt : ∀ v ∈ t.cells, Plain v) :
    PInv wB ms a0 ss out' (.int .i64 ((j : Int) + 1)) w5 := by
  have h4 := ownsRow_keep h3 hk4 (fun _ _ _ h => h)
  have hG := ownsRow_other h4
  have hk5 : Keep (fun k => some k = out.ownBlock) w4 w5 := Keep.of_grown hg
  refine PInv.step hj hl hrow ((hs.keep hk4).far hk5 (fun k _ e => (hG k e).1) (fun k e => (hG k e).2)) (fun q s u h1 h2 => ?_) ?_ hp hpt
  · exact ((hsay q s u h1 h2).far hk4 (fun _ _ h => h.elim)).far hk5 (fun k _ e => (hG k e).1.ty5)
  · exact (hnew.far hk4 (fun _ _ h => h.elim)).far hk5 (fun k _ e => (hG k e).1.ty5)

theorem dTell_plain (k num : Int) : ∀ v ∈ (dTell k num).cells, Plain v := by
  intro v hv
  simp only [List.mem_cons, List.not_mem_nil, or_false] at hv
  rcases hv with rfl | rfl | rfl | rfl | rfl | rfl | rfl | rfl | rfl | rfl | rfl | rfl | rfl | rfl | rfl | rfl | rfl | rfl | rfl | rfl | rfl | rfl
  all_goals first | exact plain_i64 _ | exact plain_bool _ | exact plain_u64 _ | exact plain_str _ | exact plain_slice _ _ _

theorem ask_says {w : World} {a : Ab} {sv : StepV} {t : TellV} {kq : Nat} (h0 : sv.op = 20) (hkq : sv.seq = (kq : Int)) (hor : (∃ rc, (kq, rc) ∈ a.l ∧ t.k = 0 ∧ MsgV w [t.m0, t.m1, t.m2, t.m3, t.m4] kq rc) ∨ ((∀ rc, (kq, rc) ∉ a.l) ∧ t.k = 1)) : Says w a sv t := by
  refine ⟨(fun h => by rw [h0] at h; cases h), (fun h => by rw [h0] at h; cases h), fun k _ h => ?_⟩
  rw [hkq] at h
  obtain rfl : kq = k := by omega
  exact hor

/-- what Store answers -/
def PPost (w : World) (a0 : Ab) (ss : List StepV) (e : Ending) (w' : World) : Prop :=
  ∃ (A' : Option Addr) (c' : Nat) (ts : List TellV), e = .returned (.slice A' ss.length c') ∧ ss.length ≤ c' ∧ ts.length = ss.length ∧ RowAt w' 22 A' ss.length (ts.flatMap TellV.cells) ∧
    (∀ (q : Nat) (sv : StepV) (t : TellV), ss[q]? = some sv → ts[q]? = some t → Says w' (runA a0 (ss.take q)) sv t) ∧ (∀ t ∈ ts, ∀ v ∈ t.cells, Plain v) ∧ Keep NoB w w'

set_option maxHeartbeats 4000000 in
theorem store_any {P : Nat → Prop} (hraw : RawLaw P) (hst : StLaw P) (mm mp disc : Nat) (nw : Bool) (hdn : disc = if nw then 1 else 0) (hP : P mp) (hmode : mp = 0 ∨ nw = false) (hmm : mm ≤ 1000) (hmp : mp ≤ 1000) (hd : (nw = false ∧ mm = 0) ∨ (nw = true ∧ 0 < mm))
    (w : World) (er : Errs w) (A : Option Addr) (ss : List StepV) (c : Nat) (hA : RowAt w 16 A ss.length (ss.flatMap StepV.cells)) (hc : ss.length ≤ c) (ok : ∀ sv ∈ ss, StepOk w sv) (hlen : ss.length ≤ 10000)
    (hord : ∀ (p q : Nat) (s s' : StepV), p < q → ss[p]? = some s → ss[q]? = some s' → s'.op = 0 → s.op = 0) (hn : ∀ j, (runA ⟨mm, mp, disc, 0, []⟩ (ss.take j)).n < 30) :
    Calls Tryz.prog 9 #[.agg (cfgC mm mp nw).toArray, .slice A ss.length c] w (PPost w ⟨mm, mp, disc, 0, []⟩ ss) := by
  have HA := Lib.hid (And.intro hA (And.intro ok (And.intro hord (And.intro hn (And.intro hP (And.intro er hdn))))))
  have hkw := (Keep.refl NoB w).alloc (.cells (cfgC mm mp nw).toArray 27)
  have hlim := limits_any mm mp nw (w.alloc (.cells (cfgC mm mp nw).toArray 27))
  have HL := Lib.hid (And.intro hkw (And.intro hlim (And.intro hmode hd)))
  clear hA ok hord hn hP er hkw hlim hmode hd hdn
  go_enter Tryz.func9, Tryz.ntmps9
  go_wp2_with fail
  refine HL.out.2.1.mono ?_
  rintro e wB ⟨b, rfl, hb, _, hkB⟩
  have hdn := HA.out.2.2.2.2.2.2
  rw [← hdn] at hb
  have hnew := newStore_any wB b mm mp disc hb (HL.out.2.2.1.imp id (fun e => by simp [hdn, e])) hmm hmp (HL.out.2.2.2.imp (fun ⟨e, e2⟩ => ⟨by simp [hdn, e], e2⟩) (fun ⟨e, e2⟩ => ⟨by simp [hdn, e], e2⟩))
  have HB := Lib.hid (And.intro (HL.out.1.none_trans hkB) hnew)
  clear hb hkB hnew hdn
  go_wp2_with fail
  refine HB.out.2.mono ?_
  rintro e w1 ⟨ms, rfl, hs⟩
  have HS := Lib.hid hs
  clear hs
  go_wp2_with fail
  go_loopw [7, 8] (fun out i wr => PInv wB ms ⟨mm, mp, disc, 0, []⟩ ss out i wr) (fun _ i _ => ss.length - (intOf i).toNat)
  case atStart => exact ⟨0, [], rfl, Nat.zero_le _, rfl, World.ownsRow_nil _ _ _ _, HS.out, fun q sv t _ h => by simp at h, fun t ht => by cases ht⟩
  case round =>
    obtain ⟨j, ts, rfl, hj, hl, hrow, hs, hsay, hp⟩ := hrel
    obtain ⟨i42, z42, hi42, hz42, hsz42, hzs42, hby42, hf42⟩ := info42
    have hsm42 : ¬ 1 * i42.size > 2 ^ 24 := by rw [hsz42]; decide
    have hps42 : ¬ 1 * i42.size = 0 := by rw [hsz42]; decide
    have hi46 : (Tryz.prog.info? 46).map (·.size) = some 16 := by kernel_rfl
    by_cases hlt : j < ss.length
    · obtain ⟨sv, hsv⟩ : ∃ sv, ss[j]? = some sv := ⟨ss[j], List.getElem?_eq_getElem hlt⟩
      have hmem : sv ∈ ss := List.mem_of_getElem? hsv
      have k0 : Keep NoB w wr := HB.out.1.none_trans (ses_keep0 hs).1
      obtain ⟨b, o, rfl, hr⟩ := (HA.out.1.keep k0 (fun _ _ _ h => h)).elem (fun _ => rfl) (by decide) hsv
      obtain ⟨b', o', e', hr'⟩ := HA.out.1.elem (fun _ => rfl) (by decide) hsv
      injection e' with e'; injection e' with e1 e2; subst e1; subst e2
      have hblt : b < w.heap.size := World.block_lt_of_cell? w _ (hr' 0 _ rfl)
      have hwB := HB.out.1.size
      have hmB := (ses_keep0 hs).2
      have hbm : ¬ b = ms := fun e => by omega
      have hmF : ∀ k, k = ms → w.heap.size ≤ k := fun k e => by omega
      have x0 : wr.cell? ⟨b, o + j * 16, none⟩ = some (.int .i64 sv.op) := by simpa using hr 0 _ rfl
      have x4 : wr.cell? ⟨b, o + j * 16 + 4, none⟩ = some (.int .i64 sv.t) := hr 4 _ rfl
      have hPa : P (runA ⟨mm, mp, disc, 0, []⟩ (ss.take j)).mp := by rw [runA_mp]; exact HA.out.2.2.2.2.1
      have hn2 := HA.out.2.2.2.1 j
      have erB := HA.out.2.2.2.2.2.1.keep HB.out.1
      clear hr' hmem
      rcases HA.out.2.1 sv (List.mem_of_getElem? hsv) with ⟨h0, hok, hh, hdt⟩ | h0 | ⟨h0, kq, hkq⟩
      · rw [h0] at x0
        have HH := Lib.hid (And.intro hrow (And.intro hs (And.intro hsay (And.intro hp (And.intro k0 (And.intro hr (ses_clock hs sv.t)))))))
        clear hrow hs hsay hp k0 hr
        go_wp2_with fail
        refine HH.out.2.2.2.2.2.2.mono ?_
        rintro e w2 ⟨rfl, s2, k2⟩
        have y0 := k2.cellS x0 (fun e => hbm e)
        obtain ⟨hrow, hs, hsay, hp, k0, hr, _⟩ := HH.out
        have hr2 : w2.rangeAt b (o + j * 16) sv.cells := fun q v hv => k2.cellS (hr q v hv) (fun e => hbm e)
        have hcall := deed_any hraw s2 erB hPa sv h0 hok hn2 (hh.keep (k0.own (F := fun k => k = ms) k2 hmF) (fun _ _ _ h => h)) (hdt.keep (k0.own (F := fun k => k = ms) k2 hmF) (fun _ _ _ h => h))
        have HC := Lib.hid (And.intro hr2 (And.intro hcall (And.intro s2 k2)))
        clear hrow hs hsay hp k0 hr hr2 hcall s2 k2 x0 x4
        go_wp2_with (first | (refine wpList_load_mid rfl 46 (.tmp 40) rfl b (o + j * 16) rfl sv.cells _ HC.out.1 Tryz.underlying46 rfl hi46 ?_) | fail)
        refine HC.out.2.1.mono ?_
        rintro e w3 ⟨kd, num, rfl, hkd, s3, k3⟩
        have hf := hf42 (dTell kd num)
        have hX : ∃ X, X = (dTell kd num).val := ⟨_, rfl⟩
        obtain ⟨X, hX⟩ := hX
        rw [← hX] at hf ⊢
        obtain ⟨hrow, hs, hsay, hp, k0, hr, _⟩ := HH.out
        obtain ⟨_, _, s2, k2⟩ := HC.out
        have row3 := ownsRow_keep (ownsRow_keep hrow k2 (ses_ne42 hs)) k3 (fun g C hb ho => ho.2 C hb)
        have hpl2 : ∀ v ∈ (dTell kd num).cells, Plain v := dTell_plain kd num
        have hsay3 : ∀ (q : Nat) (s : StepV) (u : TellV), ss[q]? = some s → ts[q]? = some u → Says w3 (runA ⟨mm, mp, disc, 0, []⟩ (ss.take q)) s u := fun q s u h1 h2 => (hsay q s u h1 h2).deed (HA.out.2.2.1 q j s sv (by have := (List.getElem?_eq_some_iff.1 h2).1; omega) h1 hsv h0)
        have hnew3 : Says w3 (runA ⟨mm, mp, disc, 0, []⟩ (ss.take j)) sv (dTell kd num) := ⟨fun _ => hkd, (fun h => by rw [h0] at h; cases h), (fun k h => by rw [h0] at h; cases h)⟩
        have s3' : Ses wB w3 ms (runA ⟨mm, mp, disc, 0, []⟩ (ss.take (j + 1))) := by
          rw [runA_snoc _ _ _ _ hsv]
          rw [nextA, if_pos h0]; exact s3
        have hz3 : wB.heap.size ≤ w3.heap.size := (ses_keep0 s3').1.size
        have H3 := Lib.hid (And.intro row3 (And.intro hf (And.intro hpl2 (And.intro hsay3 (And.intro hnew3 (And.intro s3' hp))))))
        clear row3 hf hpl2 hsay3 hnew3 s3' hrow hs hsay hp k0 hr s2 k2 hX s3 k3 y0
        go_wp2_with (first
          | (refine wpList_build1 Tryz.underlying34 hi42 hz42 hsm42 hps42 rfl (.tmp 42) rfl (dTell kd num).cells.toArray X rfl H3.out.2.1 ?_; intro w4 hb4 hk4; have HB4 := Lib.hid (And.intro hb4 hk4); clear hb4 hk4)
          | (at_builtin; have hh := @wpList_append_gen 34 42 22 i42 z42 Tryz.underlying34 hi42 hz42 hsz42 hzs42 (by decide) hby42; refine hh rfl (.tmp 36) (.tmp 43) rfl wB.heap.size _ j (ts.flatMap TellV.cells) (some ⟨w3.heap.size, 0, none⟩) 1 1 (dTell kd num).cells (by rfl) (by rfl) (ownsRow_keep H3.out.1 HB4.out.2 (fun _ _ _ h => h)) (HB4.out.1.row1 rfl) (fun v hv => (H3.out.2.2.1 v hv).1) (Nat.le_trans hz3 HB4.out.2.size) (by omega) ?_; intro v5 w5 hr5 hg5; have H5 := Lib.hid (And.intro hr5 hg5); clear hr5 hg5)
          | fail)
        go_roundw
        case rel => exact PInv.app hsv hl H3.out.1 HB4.out.2 H5.out.1 H5.out.2 H3.out.2.2.2.2.2.1 H3.out.2.2.2.1 H3.out.2.2.2.2.1 H3.out.2.2.2.2.2.2 H3.out.2.2.1
        case measure => simp [intOf]; omega
      · rw [h0] at x0
        have HH := Lib.hid (And.intro hrow (And.intro hs (And.intro hsay (And.intro hp (And.intro k0 (And.intro hr (ses_clock hs sv.t)))))))
        clear hrow hs hsay hp k0 hr
        go_wp2_with fail
        refine HH.out.2.2.2.2.2.2.mono ?_
        rintro e w2 ⟨rfl, s2, k2⟩
        have y0 := k2.cellS x0 (fun e => hbm e)
        obtain ⟨hrow, hs, hsay, hp, k0, hr, _⟩ := HH.out
        have hr2 : w2.rangeAt b (o + j * 16) sv.cells := fun q v hv => k2.cellS (hr q v hv) (fun e => hbm e)
        have hcall := ask32_any hst s2 erB hPa sv h0
        have HC := Lib.hid (And.intro hr2 (And.intro hcall (And.intro s2 k2)))
        clear hrow hs hsay hp k0 hr hr2 hcall s2 k2 x0 x4
        go_wp2_with (first | (refine wpList_load_mid rfl 46 (.tmp 49) rfl b (o + j * 16) rfl sv.cells _ HC.out.1 Tryz.underlying46 rfl hi46 ?_) | fail)
        refine HC.out.2.1.mono ?_
        rintro e w3 ⟨h, sz, nd, A', n', c', rfl, e1, e2, hpl, s3, k3⟩
        have hf := hf42 (bTell h sz nd (.slice A' n' c'))
        have hX : ∃ X, X = (bTell h sz nd (.slice A' n' c')).val := ⟨_, rfl⟩
        obtain ⟨X, hX⟩ := hX
        rw [← hX] at hf ⊢
        obtain ⟨hrow, hs, hsay, hp, k0, hr, _⟩ := HH.out
        obtain ⟨_, _, s2, k2⟩ := HC.out
        have row3 := ownsRow_keep (ownsRow_keep hrow k2 (ses_ne42 hs)) k3 (ses_ne42 s2)
        have hpl2 : ∀ v ∈ (bTell h sz nd (.slice A' n' c')).cells, Plain v := hpl
        have hsay3 : ∀ (q : Nat) (s : StepV) (u : TellV), ss[q]? = some s → ts[q]? = some u → Says w3 (runA ⟨mm, mp, disc, 0, []⟩ (ss.take q)) s u := fun q s u h1 h2 => ((hsay q s u h1 h2).far k2 (ty5_ms hs)).far k3 (ty5_ms s2)
        have hnew3 : Says w3 (runA ⟨mm, mp, disc, 0, []⟩ (ss.take j)) sv (bTell h sz nd (.slice A' n' c')) := ⟨(fun h => by rw [h0] at h; cases h), fun _ => ⟨rfl, by rw [← e1], by rw [← e2]⟩, (fun k h => by rw [h0] at h; cases h)⟩
        have s3' : Ses wB w3 ms (runA ⟨mm, mp, disc, 0, []⟩ (ss.take (j + 1))) := by
          rw [runA_snoc _ _ _ _ hsv]
          rw [nextA, if_neg (by rw [h0]; decide)]; exact s3
        have hz3 : wB.heap.size ≤ w3.heap.size := (ses_keep0 s3').1.size
        have H3 := Lib.hid (And.intro row3 (And.intro hf (And.intro hpl2 (And.intro hsay3 (And.intro hnew3 (And.intro s3' hp))))))
        clear row3 hf hpl2 hsay3 hnew3 s3' hrow hs hsay hp k0 hr s2 k2 hX s3 k3 y0
        go_wp2_with (first
          | (refine wpList_build1 Tryz.underlying34 hi42 hz42 hsm42 hps42 rfl (.tmp 51) rfl (bTell h sz nd (.slice A' n' c')).cells.toArray X rfl H3.out.2.1 ?_; intro w4 hb4 hk4; have HB4 := Lib.hid (And.intro hb4 hk4); clear hb4 hk4)
          | (at_builtin; have hh := @wpList_append_gen 34 42 22 i42 z42 Tryz.underlying34 hi42 hz42 hsz42 hzs42 (by decide) hby42; refine hh rfl (.tmp 45) (.tmp 52) rfl wB.heap.size _ j (ts.flatMap TellV.cells) (some ⟨w3.heap.size, 0, none⟩) 1 1 (bTell h sz nd (.slice A' n' c')).cells (by rfl) (by rfl) (ownsRow_keep H3.out.1 HB4.out.2 (fun _ _ _ h => h)) (HB4.out.1.row1 rfl) (fun v hv => (H3.out.2.2.1 v hv).1) (Nat.le_trans hz3 HB4.out.2.size) (by omega) ?_; intro v5 w5 hr5 hg5; have H5 := Lib.hid (And.intro hr5 hg5); clear hr5 hg5)
          | fail)
        go_roundw
        case rel => exact PInv.app hsv hl H3.out.1 HB4.out.2 H5.out.1 H5.out.2 H3.out.2.2.2.2.2.1 H3.out.2.2.2.1 H3.out.2.2.2.2.1 H3.out.2.2.2.2.2.2 H3.out.2.2.1
        case measure => simp [intOf]; omega
      · rw [h0] at x0
        have HH := Lib.hid (And.intro hrow (And.intro hs (And.intro hsay (And.intro hp (And.intro k0 (And.intro hr (ses_clock hs sv.t)))))))
        clear hrow hs hsay hp k0 hr
        go_wp2_with fail
        refine HH.out.2.2.2.2.2.2.mono ?_
        rintro e w2 ⟨rfl, s2, k2⟩
        have y0 := k2.cellS x0 (fun e => hbm e)
        obtain ⟨hrow, hs, hsay, hp, k0, hr, _⟩ := HH.out
        have hr2 : w2.rangeAt b (o + j * 16) sv.cells := fun q v hv => k2.cellS (hr q v hv) (fun e => hbm e)
        have hcall := ask20_any s2 erB sv kq h0 hkq
        have HC := Lib.hid (And.intro hr2 (And.intro hcall (And.intro s2 k2)))
        clear hrow hs hsay hp k0 hr hr2 hcall s2 k2 x0 x4
        go_wp2_with (first | (refine wpList_load_mid rfl 46 (.tmp 49) rfl b (o + j * 16) rfl sv.cells _ HC.out.1 Tryz.underlying46 rfl hi46 ?_) | fail)
        refine HC.out.2.1.mono ?_
        rintro e w3 ⟨kd, m0, m1, m2, m3, m4, rfl, hpl, s3, k3, hor⟩
        have hf := hf42 (aTell kd m0 m1 m2 m3 m4)
        have hX : ∃ X, X = (aTell kd m0 m1 m2 m3 m4).val := ⟨_, rfl⟩
        obtain ⟨X, hX⟩ := hX
        rw [← hX] at hf ⊢
        obtain ⟨hrow, hs, hsay, hp, k0, hr, _⟩ := HH.out
        obtain ⟨_, _, s2, k2⟩ := HC.out
        have row3 := ownsRow_keep (ownsRow_keep hrow k2 (ses_ne42 hs)) k3 (ses_ne42 s2)
        have hpl2 : ∀ v ∈ (aTell kd m0 m1 m2 m3 m4).cells, Plain v := hpl
        have hsay3 : ∀ (q : Nat) (s : StepV) (u : TellV), ss[q]? = some s → ts[q]? = some u → Says w3 (runA ⟨mm, mp, disc, 0, []⟩ (ss.take q)) s u := fun q s u h1 h2 => ((hsay q s u h1 h2).far k2 (ty5_ms hs)).far k3 (ty5_ms s2)
        have hnew3 : Says w3 (runA ⟨mm, mp, disc, 0, []⟩ (ss.take j)) sv (aTell kd m0 m1 m2 m3 m4) := ask_says h0 hkq hor
        have s3' : Ses wB w3 ms (runA ⟨mm, mp, disc, 0, []⟩ (ss.take (j + 1))) := by
          rw [runA_snoc _ _ _ _ hsv]
          rw [nextA, if_neg (by rw [h0]; decide)]; exact s3
        have hz3 : wB.heap.size ≤ w3.heap.size := (ses_keep0 s3').1.size
        have H3 := Lib.hid (And.intro row3 (And.intro hf (And.intro hpl2 (And.intro hsay3 (And.intro hnew3 (And.intro s3' hp))))))
        clear row3 hf hpl2 hsay3 hnew3 s3' hrow hs hsay hp k0 hr s2 k2 hX s3 k3 y0
        go_wp2_with (first
          | (refine wpList_build1 Tryz.underlying34 hi42 hz42 hsm42 hps42 rfl (.tmp 51) rfl (aTell kd m0 m1 m2 m3 m4).cells.toArray X rfl H3.out.2.1 ?_; intro w4 hb4 hk4; have HB4 := Lib.hid (And.intro hb4 hk4); clear hb4 hk4)
          | (at_builtin; have hh := @wpList_append_gen 34 42 22 i42 z42 Tryz.underlying34 hi42 hz42 hsz42 hzs42 (by decide) hby42; refine hh rfl (.tmp 45) (.tmp 52) rfl wB.heap.size _ j (ts.flatMap TellV.cells) (some ⟨w3.heap.size, 0, none⟩) 1 1 (aTell kd m0 m1 m2 m3 m4).cells (by rfl) (by rfl) (ownsRow_keep H3.out.1 HB4.out.2 (fun _ _ _ h => h)) (HB4.out.1.row1 rfl) (fun v hv => (H3.out.2.2.1 v hv).1) (Nat.le_trans hz3 HB4.out.2.size) (by omega) ?_; intro v5 w5 hr5 hg5; have H5 := Lib.hid (And.intro hr5 hg5); clear hr5 hg5)
          | fail)
        go_roundw
        case rel => exact PInv.app hsv hl H3.out.1 HB4.out.2 H5.out.1 H5.out.2 H3.out.2.2.2.2.2.1 H3.out.2.2.2.1 H3.out.2.2.2.2.1 H3.out.2.2.2.2.2.2 H3.out.2.2.1
        case measure => simp [intOf]; omega
    · obtain rfl : j = ss.length := by omega
      have HH := Lib.hid (And.intro hrow (And.intro hs (And.intro hsay hp)))
      clear hrow hs hsay hp
      go_wp2_with fail
      go_ret
      obtain ⟨hrow, hs, hsay, hp⟩ := HH.out
      obtain ⟨A', c', rfl, hc', _, hra, _⟩ := ownsRow_row hrow
      exact ⟨A', c', ts, rfl, hc', hl, hra, hsay, hp, HB.out.1.none_trans (ses_keep0 hs).1⟩

end Go.Proofs.YtmblkpjnafgplaaGreatDoor

namespace Go.Proofs.YtmblkpjnafgplaaGreatDoor
open Go Go.RowKit
set_option linter.unusedVariables false
set_option linter.unusedSimpArgs false

/-- messages by their numbers -/
def numL (l : List StepV) : List (Nat × Rec) := l.zipIdx.map fun x => (x.2 + 1, x.1.rc)

theorem numL_length (l : List StepV) : (numL l).length = l.length := by simp [numL]
theorem numL_snoc (l : List StepV) (s : StepV) : numL (l ++ [s]) = numL l ++ [(l.length + 1, s.rc)] := by simp [numL, List.zipIdx_append]
theorem runA_app (a : Ab) (l : List StepV) (s : StepV) : runA a (l ++ [s]) = nextA (runA a l) s := by unfold runA; rw [List.foldl_append]; rfl

theorem addRec0 (n : Nat) (l : List (Nat × Rec)) (rc : Rec) : addRec 0 n l rc = l ++ [(n + 1, rc)] := by unfold addRec; rw [if_neg (by omega)]

theorem snoc_ind {α : Type} {Q : List α → Prop} (h0 : Q []) (h1 : ∀ l x, Q l → Q (l ++ [x])) : ∀ l, Q l := by
  have : ∀ l : List α, Q l.reverse := by
    intro l
    induction l with
    | nil => exact h0
    | cons x l ih => rw [List.reverse_cons]; exact h1 _ _ ih
  intro l
  rw [← List.reverse_reverse l]
  exact this _

/-- deeds alone: the first ones are there, up to the limit -/
theorem runA_deeds (mm disc : Nat) (l : List StepV) (h : ∀ s ∈ l, s.op = 0) :
    runA ⟨mm, 0, disc, 0, []⟩ l = ⟨mm, 0, disc, if disc = 1 then min mm l.length else l.length, if disc = 1 then (numL l).take mm else numL l⟩ := by
  revert h
  refine snoc_ind (Q := fun l => (∀ s ∈ l, s.op = 0) → runA ⟨mm, 0, disc, 0, []⟩ l = ⟨mm, 0, disc, if disc = 1 then min mm l.length else l.length, if disc = 1 then (numL l).take mm else numL l⟩) ?_ ?_ l
  · intro _
    by_cases hd : disc = 1 <;> simp [runA, numL, hd]
  · intro l s ih h
    rw [runA_app, ih (fun x hx => h x (by simp [hx])), nextA, if_pos (h s (by simp)), Ab.put]
    by_cases hd : disc = 1
    · subst hd
      simp only [if_true]
      by_cases hf : mm ≤ l.length
      · have hfull : Ab.full ⟨mm, 0, 1, min mm l.length, (numL l).take mm⟩ := ⟨rfl, by simp [numL_length]; omega⟩
        rw [if_pos hfull, numL_snoc, List.take_append_of_le_length (by rw [numL_length]; exact hf)]
        simp only [List.length_append, List.length_cons, List.length_nil]
        congr 1; omega
      · have hfull : ¬ Ab.full ⟨mm, 0, 1, min mm l.length, (numL l).take mm⟩ := fun hx => by have := hx.2; simp [numL_length] at this; omega
        rw [if_neg hfull, numL_snoc]
        simp only [addRec0, List.length_append, List.length_cons, List.length_nil]
        rw [List.take_of_length_le (by rw [numL_length]; omega), List.take_of_length_le (by rw [List.length_append, numL_length]; simp; omega)]
        rw [show min mm l.length = l.length by omega, show min mm (l.length + (0 + 1)) = l.length + 1 by omega]
    · have hfull : ¬ Ab.full ⟨mm, 0, disc, l.length, numL l⟩ := fun hx => hd hx.1
      simp only [if_neg hd]
      rw [if_neg hfull, numL_snoc]
      simp only [addRec0, List.length_append, List.length_cons, List.length_nil]

end Go.Proofs.YtmblkpjnafgplaaGreatDoor

namespace Go.Proofs.YtmblkpjnafgplaaGreatDoor
open Go Go.RowKit
set_option linter.unusedVariables false
set_option linter.unusedSimpArgs false

/-- the messages below a number -/
def below (l : List (Nat × Rec)) (k : Nat) : List (Nat × Rec) := l.filter fun x => decide (x.1 < k)

/-- numbers that rise, between one and the last one -/
structure GoodA (a : Ab) : Prop where
  srt : (a.l.map Prod.fst).Pairwise (· < ·)
  num : ∀ x ∈ a.l, 1 ≤ x.1 ∧ x.1 ≤ a.n

theorem below_all {l : List (Nat × Rec)} {k : Nat} (h : ∀ x ∈ l, x.1 < k) : below l k = l := by
  unfold below
  exact List.filter_eq_self.2 (fun x hx => decide_eq_true (h x hx))
theorem below_none {l : List (Nat × Rec)} {k : Nat} (h : ∀ x ∈ l, k ≤ x.1) : below l k = [] := by
  unfold below
  rw [List.filter_eq_nil_iff]
  intro x hx
  have := h x hx
  simp only [decide_eq_true_eq]
  omega
theorem below_miss {l : List (Nat × Rec)} {k : Nat} (h : ∀ rc, (k, rc) ∉ l) : below l (k + 1) = below l k := by
  unfold below
  apply List.filter_congr
  intro x hx
  have : x.1 ≠ k := fun e => h x.2 (by rw [← e]; exact hx)
  exact decide_eq_decide.2 (by omega)
theorem below_hit {l : List (Nat × Rec)} (hs : (l.map Prod.fst).Pairwise (· < ·)) {k : Nat} {rc : Rec} (h : (k, rc) ∈ l) : below l (k + 1) = below l k ++ [(k, rc)] := by
  induction l with
  | nil => cases h
  | cons x t ih =>
    rw [List.map_cons, List.pairwise_cons] at hs
    obtain ⟨h1, h2⟩ := hs
    have hlt : ∀ y ∈ t, x.1 < y.1 := fun y hy => h1 y.1 (List.mem_map.2 ⟨y, hy, rfl⟩)
    rcases List.mem_cons.1 h with e | ht
    · subst e
      have e1 : below ((k, rc) :: t) k = [] := below_none (fun y hy => by
        rcases List.mem_cons.1 hy with rfl | hy
        · exact Nat.le_refl _
        · exact Nat.le_of_lt (hlt y hy))
      have e2 : below t (k + 1) = [] := below_none (fun y hy => hlt y hy)
      rw [e1]
      unfold below at e2 ⊢
      rw [List.filter_cons_of_pos (by simp), e2]
      rfl
    · have hx : x.1 < k := hlt _ ht
      have := ih h2 ht
      unfold below at this ⊢
      rw [List.filter_cons_of_pos (by simp; omega), List.filter_cons_of_pos (by simp; omega), this]
      rfl

theorem numL_fst (l : List StepV) : (numL l).map Prod.fst = List.range' 1 l.length := by
  refine snoc_ind (Q := fun l => (numL l).map Prod.fst = List.range' 1 l.length) rfl ?_ l
  intro l s ih
  rw [numL_snoc, List.map_append, ih, List.length_append, List.length_singleton, List.range'_concat]
  simp [Nat.add_comm]
theorem numL_get (l : List StepV) {j : Nat} {s : StepV} (h : l[j]? = some s) : (numL l)[j]? = some (j + 1, s.rc) := by
  unfold numL
  rw [List.getElem?_map, List.getElem?_zipIdx, h]
  simp
theorem numL_mem {l : List StepV} {x : Nat × Rec} (h : x ∈ numL l) : 1 ≤ x.1 ∧ x.1 ≤ l.length ∧ ∃ s ∈ l, s.rc = x.2 := by
  unfold numL at h
  obtain ⟨⟨s, i⟩, hy, rfl⟩ := List.mem_map.1 h
  have := List.mem_zipIdx' hy
  refine ⟨by simp, by simp; exact this.1, s, ?_, rfl⟩
  rw [this.2]; exact List.getElem_mem _
theorem numL_srt (l : List StepV) : ((numL l).map Prod.fst).Pairwise (· < ·) := by
  rw [numL_fst]
  exact List.pairwise_lt_range'

theorem goodA_of {a : Ab} {l : List StepV} (hn : a.n = l.length) (hl : a.l.Sublist (numL l)) : GoodA a :=
  ⟨(numL_srt l).sublist (hl.map _), fun x hx => by have := numL_mem (hl.subset hx); rw [hn]; exact ⟨this.1, this.2.1⟩⟩

theorem goodA_fst {a : Ab} (g : GoodA a) : a.fst ≤ a.n ∧ (∀ x ∈ a.l, a.fst ≤ x.1) ∧ (∀ x ∈ a.l, x.1 < a.n + 1) := by
  refine ⟨?_, ?_, fun x hx => by have := (g.num x hx).2; omega⟩
  · unfold Ab.fst
    rcases h : a.l with _ | ⟨x, t⟩
    · simp
    · have := (g.num x (by rw [h]; simp)).2
      simpa using this
  · unfold Ab.fst
    have hs := g.srt
    rcases h : a.l with _ | ⟨x, t⟩
    · intro y hy; cases hy
    · rw [h, List.map_cons, List.pairwise_cons] at hs
      intro y hy
      rcases List.mem_cons.1 hy with rfl | hy
      · simp
      · have := hs.1 y.1 (List.mem_map.2 ⟨y, hy, rfl⟩)
        simp; omega

/-- the last ones of each subject -/
def keepLast (mp : Nat) : List (Nat × Rec) → List (Nat × Rec)
  | [] => []
  | x :: t => if (t.filter fun y => y.2.subj == x.2.subj).length < mp then x :: keepLast mp t else keepLast mp t

theorem keepLast_sub (mp : Nat) : ∀ l, (keepLast mp l).Sublist l
  | [] => List.Sublist.slnil
  | x :: t => by
    rw [keepLast]
    split
    · exact (keepLast_sub mp t).cons_cons x
    · exact (keepLast_sub mp t).cons x

theorem keepLast_count (mp : Nat) (s : Bs) : ∀ l, ((keepLast mp l).filter fun y => y.2.subj == s).length = min mp (l.filter fun y => y.2.subj == s).length
  | [] => by simp [keepLast]
  | x :: t => by
    have ih := keepLast_count mp s t
    by_cases he : x.2.subj = s
    · subst he
      rw [keepLast, List.filter_cons_of_pos (by simp)]
      split
      · rename_i hc
        rw [List.filter_cons_of_pos (by simp), List.length_cons, List.length_cons, ih]
        omega
      · rename_i hc
        rw [ih, List.length_cons]
        omega
    · have hb : (x.2.subj == s) = false := by simpa using he
      rw [keepLast, List.filter_cons_of_neg (by simp [hb])]
      split
      · rw [List.filter_cons_of_neg (by simp [hb]), ih]
      · exact ih

theorem keepLast_snoc (mp : Nat) (h0 : 0 < mp) (y : Nat × Rec) : ∀ l, keepLast mp (l ++ [y]) = if mp < (l.filter fun z => z.2.subj == y.2.subj).length + 1 then (keepLast mp l ++ [y]).eraseP fun z => z.2.subj == y.2.subj else keepLast mp l ++ [y]
  | [] => by
    rw [if_neg (by simp; omega)]
    simp [keepLast, h0]
  | x :: t => by
    have ih := keepLast_snoc mp h0 y t
    have e1 : keepLast mp (x :: t ++ [y]) = if ((t ++ [y]).filter fun z => z.2.subj == x.2.subj).length < mp then x :: keepLast mp (t ++ [y]) else keepLast mp (t ++ [y]) := rfl
    have e2 : keepLast mp (x :: t) = if (t.filter fun z => z.2.subj == x.2.subj).length < mp then x :: keepLast mp t else keepLast mp t := rfl
    have e3 : ((t ++ [y]).filter fun z => z.2.subj == x.2.subj).length = (t.filter fun z => z.2.subj == x.2.subj).length + if x.2.subj = y.2.subj then 1 else 0 := by
      rw [List.filter_append, List.length_append]
      by_cases he : x.2.subj = y.2.subj
      · rw [if_pos he, List.filter_cons_of_pos (by simp [he])]; simp
      · rw [if_neg he, List.filter_cons_of_neg (by simpa using fun e => he e.symm)]; simp
    have e4 : ((x :: t).filter fun z => z.2.subj == y.2.subj).length = (t.filter fun z => z.2.subj == y.2.subj).length + if x.2.subj = y.2.subj then 1 else 0 := by
      by_cases he : x.2.subj = y.2.subj
      · rw [if_pos he, List.filter_cons_of_pos (by simp [he])]; simp
      · rw [if_neg he, List.filter_cons_of_neg (by simpa using he)]; simp
    rw [e1, e3, e4, e2, ih]
    clear e1 e2 e3 e4 ih
    by_cases he : x.2.subj = y.2.subj
    · rw [if_pos he, he]
      by_cases c1 : (t.filter fun z => z.2.subj == y.2.subj).length + 1 < mp
      · have n1 : ¬ mp < (t.filter fun z => z.2.subj == y.2.subj).length + 1 := by omega
        have n2 : (t.filter fun z => z.2.subj == y.2.subj).length < mp := by omega
        have n3 : ¬ mp < (t.filter fun z => z.2.subj == y.2.subj).length + 1 + 1 := by omega
        rw [if_pos c1, if_neg n1, if_pos n2, if_neg n3]; rfl
      · by_cases c2 : (t.filter fun z => z.2.subj == y.2.subj).length < mp
        · have n1 : ¬ mp < (t.filter fun z => z.2.subj == y.2.subj).length + 1 := by omega
          have n3 : mp < (t.filter fun z => z.2.subj == y.2.subj).length + 1 + 1 := by omega
          rw [if_neg c1, if_neg n1, if_pos c2, if_pos n3, List.cons_append, List.eraseP_cons_of_pos (by simp [he])]
        · have n1 : mp < (t.filter fun z => z.2.subj == y.2.subj).length + 1 := by omega
          have n3 : mp < (t.filter fun z => z.2.subj == y.2.subj).length + 1 + 1 := by omega
          rw [if_neg c1, if_pos n1, if_neg c2, if_pos n3]
    · rw [if_neg he, Nat.add_zero, Nat.add_zero]
      have hb' : ¬ ((fun z : Nat × Rec => z.2.subj == y.2.subj) x) = true := by simpa using he
      by_cases hc : (t.filter fun z => z.2.subj == x.2.subj).length < mp
      · rw [if_pos hc, if_pos hc]
        by_cases c1 : mp < (t.filter fun z => z.2.subj == y.2.subj).length + 1
        · rw [if_pos c1, if_pos c1, List.cons_append, List.eraseP_cons_of_neg (p := fun z : Nat × Rec => z.2.subj == y.2.subj) hb']
        · rw [if_neg c1, if_neg c1]; rfl
      · rw [if_neg hc, if_neg hc]

theorem addRec_last (mp n : Nat) (h0 : 0 < mp) (l : List (Nat × Rec)) (rc : Rec) : addRec mp n (keepLast mp l) rc = keepLast mp (l ++ [(n + 1, rc)]) := by
  unfold addRec
  rw [keepLast_snoc mp h0, List.filter_append, List.length_append, keepLast_count]
  simp only [List.filter_cons_of_pos (p := fun x : Nat × Rec => x.2.subj == rc.subj) (a := (n + 1, rc)) (l := []) (by simp), List.filter_nil, List.length_cons, List.length_nil]
  by_cases hc : mp < (l.filter fun z => z.2.subj == rc.subj).length + 1
  · rw [if_pos ⟨h0, by omega⟩, if_pos hc]
  · rw [if_neg (by omega), if_neg hc]

/-- deeds alone, with a limit of a subject: the last ones of each subject are there -/
theorem runA_last (mp : Nat) (h0 : 0 < mp) (l : List StepV) (h : ∀ s ∈ l, s.op = 0) : runA ⟨0, mp, 0, 0, []⟩ l = ⟨0, mp, 0, l.length, keepLast mp (numL l)⟩ := by
  revert h
  refine snoc_ind (Q := fun l => (∀ s ∈ l, s.op = 0) → runA ⟨0, mp, 0, 0, []⟩ l = ⟨0, mp, 0, l.length, keepLast mp (numL l)⟩) ?_ ?_ l
  · intro _; rfl
  · intro l s ih h
    rw [runA_app, ih (fun x hx => h x (by simp [hx])), nextA, if_pos (h s (by simp)), Ab.put]
    have hfull : ¬ Ab.full ⟨0, mp, 0, l.length, keepLast mp (numL l)⟩ := fun hx => by have h1 : (0 : Nat) = 1 := hx.1; omega
    rw [if_neg hfull, numL_snoc]
    simp only [addRec_last mp l.length h0, List.length_append, List.length_cons, List.length_nil]

/-- what is asked behind deeds turns nothing -/
theorem runA_ask (a : Ab) (l : List StepV) (h : ∀ s ∈ l, s.op ≠ 0) : runA a l = a := by
  unfold runA
  induction l generalizing a with
  | nil => rfl
  | cons s t ih =>
    rw [List.foldl_cons, nextA, if_neg (h s (by simp))]
    exact ih a (fun x hx => h x (by simp [hx]))
theorem runA_two (a : Ab) (l m : List StepV) : runA a (l ++ m) = runA (runA a l) m := by unfold runA; rw [List.foldl_append]

theorem runA_n_le (a : Ab) (l : List StepV) : (runA a l).n ≤ a.n + (l.filter fun s => decide (s.op = 0)).length := by
  unfold runA
  induction l generalizing a with
  | nil => simp
  | cons s t ih =>
    rw [List.foldl_cons]
    refine Nat.le_trans (ih _) ?_
    unfold nextA
    by_cases h : s.op = 0
    · rw [if_pos h, List.filter_cons_of_pos (by simpa using h), List.length_cons]
      unfold Ab.put
      split
      · omega
      · simp only; omega
    · rw [if_neg h, List.filter_cons_of_neg (by simpa using h)]
      exact Nat.le_refl _

end Go.Proofs.YtmblkpjnafgplaaGreatDoor

namespace Go.Proofs.YtmblkpjnafgplaaGreatDoor
open Go Go.RowKit
set_option maxRecDepth 100000
set_option linter.unusedVariables false
set_option linter.unusedSimpArgs false

/-- tokens, and what was begun, as a text -/
def joinT (ts : List Bs) (cur : Bs) : Bs := ts.flatMap (fun t => t ++ [46]) ++ cur

theorem joinT_dot (ts : List Bs) (cur : Bs) : joinT (ts ++ [cur]) [] = joinT ts cur ++ [46] := by simp [joinT]
theorem joinT_add (ts : List Bs) (cur : Bs) (x : UInt8) : joinT ts (cur ++ [x]) = joinT ts cur ++ [x] := by simp [joinT]

theorem info9 : ∃ (i : TypeInfo) (z : Value), Tryz.prog.info? 9 = some i ∧ i.zero = some z ∧ i.size = 1 ∧ z.cells.size = 1 ∧ i.bytes ≤ 1000 ∧ (∀ s : Bs, Instr.fill (fun j => some (j * i.size, i.size)) ((Array.range (1 * i.size)).map (z.cells[· % z.cells.size]!)) [(0, str s)] = some #[str s]) :=
  ⟨_, _, rfl, rfl, rfl, rfl, by decide, fun t => by kernel_rfl⟩

theorem own_ge {w : World} {base E size n : Nat} {v : Value} {xs : List Value} (h : w.ownsRow base E size v n xs) : ∀ k, some k = v.ownBlock → base ≤ k := by
  intro k hk
  rcases h.2 with ⟨rfl, _⟩ | ⟨g, cap, cur, rfl, hb, hg, _⟩
  · cases hk
  · injection hk with hk
    simp only at hk
    subst hk
    exact hb

theorem str_app (s cur : Bs) (j : Nat) (h : j < s.length) : (⟨cur.toArray⟩ : ByteArray) ++ (⟨s.toArray⟩ : ByteArray).extract j (j + 1) = ⟨(cur ++ [s[j]]).toArray⟩ := by
  apply ByteArray.ext
  rw [ByteArray.data_append, ByteArray.data_extract]
  apply Array.toList_inj.1
  have e : List.take 1 (List.drop j s) = [s[j]] := by rw [List.drop_eq_getElem_cons h]; rfl
  simp [e]

set_option maxHeartbeats 4000000 in
theorem tokens_any (s : Bs) (w : World) (hl : s.length ≤ 2147483647) :
    Calls Tryz.prog 58 #[str s] w fun e w' => ∃ (v : Value) (ts : List Bs) (cur : Bs), e = .returned v ∧ w'.ownsRow w.heap.size 9 1 v (ts.length + 1) ((ts ++ [cur]).map str) ∧ joinT ts cur = s ∧ Keep NoB w w' := by
  obtain ⟨i9, z9, hi9, hz9, hsz9, hzs9, hby9, hf9⟩ := info9
  have hsm9 : ¬ 1 * i9.size > 2 ^ 24 := by rw [hsz9]; decide
  have hps9 : ¬ 1 * i9.size = 0 := by rw [hsz9]; decide
  have hlb : ByteArray.size ⟨s.toArray⟩ = s.length := by simp [ByteArray.size]
  go_enter Tryz.func58, Tryz.ntmps58
  go_wp2_with fail
  go_loopw [3, 4, 5] (fun out tok i wr => ∃ (j : Nat) (ts : List Bs) (cur : Bs), i = .int .i64 (j : Int) ∧ j ≤ s.length ∧ tok = str cur ∧ wr.ownsRow w.heap.size 9 1 out ts.length (ts.map str) ∧ (ts.length ≤ j ∧ cur.length ≤ j) ∧ joinT ts cur = s.take j ∧ Keep NoB w wr) (fun _ _ i _ => s.length - (intOf i).toNat)
  case atStart => exact ⟨0, [], [], rfl, Nat.zero_le _, rfl, World.ownsRow_nil _ _ _ _, ⟨Nat.zero_le _, Nat.zero_le _⟩, rfl, Keep.refl _ _⟩
  case round =>
    obtain ⟨j, ts, cur, rfl, hj, rfl, hrow, ⟨htj, hcj⟩, hjn, hk⟩ := hrel
    have HR := Lib.hid (And.intro hrow (And.intro hjn hk))
    clear hrow hjn hk
    by_cases hlt : j < s.length
    · have h0 : (0 : Int) ≤ (j : Int) := Int.natCast_nonneg _
      have h1 : (j : Int) < (s.length : Int) := by omega
      by_cases hd : s[j] = 46
      · have hdi : (s[j].toNat : Int) = 46 := by rw [hd]; rfl
        have hgt : j < ByteArray.size ⟨s.toArray⟩ := by rw [hlb]; exact hlt
        have hb : (((({ data := s.toArray } : ByteArray)[j]'hgt).toNat : Int) == 46) = true := by
          have e : (({ data := s.toArray } : ByteArray)[j]'hgt) = s[j] := rfl
          rw [e]
          simpa using hdi
        clear hdi
        go_wp2_with (first
          | (refine wpList_build1 Tryz.underlying44 hi9 hz9 hsm9 hps9 rfl (.tmp 17) rfl #[str cur] (str cur) rfl (hf9 cur) ?_; intro w4 hb4 hk4; have HB4 := Lib.hid (And.intro hb4 hk4); clear hb4 hk4)
          | (at_builtin; have hh := @wpList_append_gen 44 9 1 i9 z9 Tryz.underlying44 hi9 hz9 hsz9 hzs9 (by decide) hby9; refine hh rfl (.tmp 16) (.tmp 18) rfl w.heap.size _ ts.length (ts.map str) (some ⟨wr.heap.size, 0, none⟩) 1 1 [str cur] (by rfl) (by rfl) (ownsRow_keep HR.out.1 HB4.out.2 (fun _ _ _ h => h)) (HB4.out.1.row1 rfl) (by simp [Value.oneCell']) (Nat.le_trans HR.out.2.2.size HB4.out.2.size) (by omega) ?_; intro v5 w5 hr5 hg5; have H5 := Lib.hid (And.intro hr5 hg5); clear hr5 hg5)
          | fail)
        go_roundw
        case rel => exact ⟨j + 1, ts ++ [cur], [], by go_num, by omega, rfl, by simpa using H5.out.1, ⟨by simp; omega, Nat.zero_le _⟩, by rw [joinT_dot, HR.out.2.1, List.take_succ_eq_append_getElem hlt, hd], (HR.out.2.2.none_trans HB4.out.2).own (Keep.of_grown H5.out.2) (fun k e => own_ge HR.out.1 k e)⟩
        case measure => simp [intOf]; omega
      · have hdi : ¬ (s[j].toNat : Int) = 46 := fun e => hd (UInt8.toNat_inj.1 (by have h46 : (46 : UInt8).toNat = 46 := rfl; omega))
        have hgt : j < ByteArray.size ⟨s.toArray⟩ := by rw [hlb]; exact hlt
        have hb : (((({ data := s.toArray } : ByteArray)[j]'hgt).toNat : Int) == 46) = false := by
          have e : (({ data := s.toArray } : ByteArray)[j]'hgt) = s[j] := rfl
          rw [e]
          simpa using hdi
        have hcs : ByteArray.size ⟨cur.toArray⟩ = cur.length := by simp [ByteArray.size]
        go_wp2_with fail
        exact ⟨⟨j + 1, ts, cur ++ [s[j]], by go_num, by omega, by rw [str_app s cur j hlt], HR.out.1, ⟨by omega, by simp; omega⟩, by rw [joinT_add, HR.out.2.1, List.take_succ_eq_append_getElem hlt], HR.out.2.2⟩, by simp [intOf]; omega⟩
    · obtain rfl : j = s.length := by omega
      go_wp2_with (first
        | (refine wpList_build1 Tryz.underlying44 hi9 hz9 hsm9 hps9 rfl (.tmp 28) rfl #[str cur] (str cur) rfl (hf9 cur) ?_; intro w4 hb4 hk4; have HB4 := Lib.hid (And.intro hb4 hk4); clear hb4 hk4)
        | (at_builtin; have hh := @wpList_append_gen 44 9 1 i9 z9 Tryz.underlying44 hi9 hz9 hsz9 hzs9 (by decide) hby9; refine hh rfl (.tmp 27) (.tmp 29) rfl w.heap.size _ ts.length (ts.map str) (some ⟨wr.heap.size, 0, none⟩) 1 1 [str cur] (by rfl) (by rfl) (ownsRow_keep HR.out.1 HB4.out.2 (fun _ _ _ h => h)) (HB4.out.1.row1 rfl) (by simp [Value.oneCell']) (Nat.le_trans HR.out.2.2.size HB4.out.2.size) (by omega) ?_; intro v5 w5 hr5 hg5; have H5 := Lib.hid (And.intro hr5 hg5); clear hr5 hg5)
        | fail)
      go_ret
      exact ⟨v5, ts, cur, rfl, by simpa using H5.out.1, by rw [HR.out.2.1, List.take_length], (HR.out.2.2.none_trans HB4.out.2).own (Keep.of_grown H5.out.2) (fun k e => own_ge HR.out.1 k e)⟩

end Go.Proofs.YtmblkpjnafgplaaGreatDoor

namespace Go.Proofs.YtmblkpjnafgplaaGreatDoor
open Go Go.RowKit
set_option maxRecDepth 100000
set_option linter.unusedVariables false
set_option linter.unusedSimpArgs false

/-- a message's five cells -/
structure MC where
  m0 : Value
  m1 : Value
  m2 : Value
  m3 : Value
  m4 : Value
abbrev MC.cells (c : MC) : List Value := [c.m0, c.m1, c.m2, c.m3, c.m4]

/-- a list of messages as their cells -/
def MsgL (w : World) (cs : List MC) (l : List (Nat × Rec)) : Prop := cs.length = l.length ∧ ∀ (j : Nat) (c : MC) (x : Nat × Rec), cs[j]? = some c → l[j]? = some x → MsgV w c.cells x.1 x.2 ∧ x.2.Ok

/-- in the still head of a region: cells read whole -/
theorem wpStill_load_mid {ops : Array Oper} {w : World} {Q : Act → Prop} {a : Act} {o : Oper} {rest : List Oper} (hg : Region.wanted o (yielded ops a.tmps) = true) (ty : TypeId) (x : Operand) (ho : o.op = .load ty x)
    (b off : Nat) (hx : a.eval x = .pointer (some ⟨b, off, none⟩)) (cs : List Value) (d : TypeDesc) (hc : w.rangeAt b off cs) (hu : Tryz.prog.underlying ty = some d) (hd : d.isRow = true) (hi : (Tryz.prog.info? ty).map (·.size) = some cs.length)
    (h : wpStill Tryz.prog ops w Q rest (a.put o.dst (.agg cs.toArray))) : wpStill Tryz.prog ops w Q (o :: rest) a := by
  unfold wpStill
  rw [if_pos hg]
  unfold Oper.still execOp
  simp only [ho, hx, Instr.loadAt, Instr.sureAddr, Sem.run_bind, Sem.run_pure, Result.andThen_ok, run_loadVar_mid w b off ty cs d hc hu hd hi]
  exact ⟨rfl, h⟩

theorem sameMC (w : World) (cx cy : MC) (x : Nat × Rec) (hx : MsgV w cx.cells x.1 x.2) (hy : MsgV w cy.cells x.1 x.2) (hok : x.2.Ok) :
    Calls Tryz.prog 19 #[.agg #[cx.m0, cx.m1, cx.m2, cx.m3, cx.m4], .agg #[cy.m0, cy.m1, cy.m2, cy.m3, cy.m4]] w fun e w' => e = .returned (.bool true) ∧ Keep NoB w w' := by
  obtain ⟨A1, c1, A2, c2, e, r1, r2, l1, l2, _⟩ := hx
  obtain ⟨B1, d1, B2, d2, e', s1, s2, k1, k2, _⟩ := hy
  simp only [List.cons.injEq, and_true] at e e'
  obtain ⟨e0, e1, e2, e3, e4⟩ := e
  obtain ⟨g0, g1, g2, g3, g4⟩ := e'
  rw [e0, e1, e2, e3, e4, g0, g1, g2, g3, g4]
  have h1 := hok.h1
  have h2 := hok.d1
  exact sameMsg_eq x.2 x.1 A1 A2 B1 B2 c1 c2 d1 d2 w (by omega) (by omega) r1 r2 s1 s2

set_option maxHeartbeats 4000000 in
theorem sameMsgs_eq (A B : Option Addr) (c d : Nat) (xs ys : List MC) (l : List (Nat × Rec)) (w : World) (hA : RowAt w 5 A l.length (xs.flatMap MC.cells)) (hB : RowAt w 5 B l.length (ys.flatMap MC.cells)) (hx : MsgL w xs l) (hy : MsgL w ys l) (hl : l.length ≤ 100000) :
    Calls Tryz.prog 10 #[.slice A l.length c, .slice B l.length d] w fun e w' => e = .returned (.bool true) ∧ Keep NoB w w' := by
  have HA := Lib.hid (And.intro hA (And.intro hB (And.intro hx hy)))
  clear hA hB hx hy
  go_enter Tryz.func10, Tryz.ntmps10
  go_wp2_with fail
  go_loopw [5] (fun i wr => ∃ j : Nat, i = .int .i64 (j : Int) ∧ j ≤ l.length ∧ Keep NoB w wr) (fun i _ => l.length - (intOf i).toNat)
  case atStart => exact ⟨0, rfl, Nat.zero_le _, Keep.refl _ _⟩
  case round =>
    obtain ⟨j, rfl, hj, hk⟩ := hrel
    have HK := Lib.hid hk
    clear hk
    by_cases hlt : j < l.length
    · obtain ⟨x, hx⟩ : ∃ x, l[j]? = some x := ⟨l[j], List.getElem?_eq_getElem hlt⟩
      obtain ⟨cx, hcx⟩ : ∃ cx, xs[j]? = some cx := ⟨xs[j]'(by have := HA.out.2.2.1.1; omega), List.getElem?_eq_getElem _⟩
      obtain ⟨cy, hcy⟩ : ∃ cy, ys[j]? = some cy := ⟨ys[j]'(by have := HA.out.2.2.2.1; omega), List.getElem?_eq_getElem _⟩
      obtain ⟨a, oa, rfl, ra⟩ := (HA.out.1.keep HK.out (fun _ _ _ h => h)).elem (fun _ => rfl) (by decide) hcx
      obtain ⟨b, ob, rfl, rb⟩ := (HA.out.2.1.keep HK.out (fun _ _ _ h => h)).elem (fun _ => rfl) (by decide) hcy
      have hsame := sameMC wr.drew cx cy x (((HA.out.2.2.1.2 j cx x hcx hx).1.keep HK.out).keep (Keep.refl NoB wr).drew) (((HA.out.2.2.2.2 j cy x hcy hx).1.keep HK.out).keep (Keep.refl NoB wr).drew) (HA.out.2.2.1.2 j cx x hcx hx).2
      have ra' : wr.drew.rangeAt a (oa + j * 5) cx.cells := ra
      have rb' : wr.drew.rangeAt b (ob + j * 5) cy.cells := rb
      have hi39 : (Tryz.prog.info? 39).map (·.size) = some 5 := by kernel_rfl
      have HS := Lib.hid (And.intro hsame (And.intro ra' rb'))
      clear hsame hx hcx hcy ra rb ra' rb'
      have h0 : (0 : Int) ≤ (j : Int) := Int.natCast_nonneg _
      have h1 : (j : Int) < (l.length : Int) := by omega
      go_wp2_with fail
      refine wp_region_still_tail 8 (by kernel_rfl) (by kernel_rfl) ?_
      simp only [List.take_succ_cons, List.take_zero, List.drop_succ_cons, List.drop_zero]
      still_step
      still_step
      still_step
      refine wpStill_load_mid (by rfl) 39 (.tmp 19) rfl a (oa + j * 5) (by rfl) cx.cells _ HS.out.2.1 Tryz.underlying39 rfl hi39 ?_
      still_step
      still_step
      still_step
      refine wpStill_load_mid (by rfl) 39 (.tmp 23) rfl b (ob + j * 5) (by rfl) cy.cells _ HS.out.2.2 Tryz.underlying39 rfl hi39 ?_
      refine wpStill_nil ?_
      change wpList _ _ _ _ _ wr.drew
      have hk' : Keep NoB w wr.drew := HK.out.drew
      have HK2 := Lib.hid (And.intro hk' HS.out.1)
      clear hk' HS
      generalize wr.drew = wd at HK2 ⊢
      go_wp2_with fail
      refine HK2.out.2.mono ?_
      rintro e w5 ⟨rfl, hk5⟩
      have H5 := Lib.hid hk5
      clear hk5
      go_wp2_with fail
      exact ⟨⟨j + 1, by go_num, by omega, HK2.out.1.none_trans H5.out⟩, by simp [intOf]; omega⟩
    · go_wp2_with fail
      go_ret
      exact ⟨rfl, HK.out⟩

end Go.Proofs.YtmblkpjnafgplaaGreatDoor
