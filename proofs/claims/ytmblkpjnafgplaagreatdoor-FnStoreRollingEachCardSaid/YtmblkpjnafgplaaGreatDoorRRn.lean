/- State, whatever was taken out: the closure's round. -/
import Derived.Test.YtmblkpjnafgplaaGreatDoorRRm
import Derived.Test.YtmblkpjnafgplaaGreatDoorR20
import Derived.Maps.AppendAt
namespace Go.Proofs.YtmblkpjnafgplaaGreatDoor
open Go Go.RowKit
set_option maxRecDepth 100000
set_option linter.unusedVariables false
set_option linter.unusedSimpArgs false

theorem info25 : ∃ (i : TypeInfo) (z : Value), Tryz.prog.info? 25 = some i ∧ i.zero = some z ∧ i.size = 1 ∧ z.cells.size = 1 ∧ i.bytes ≤ 1000 ∧ (∀ n : Int, Instr.fill (fun j => some (j * i.size, i.size)) ((Array.range (1 * i.size)).map (z.cells[· % z.cells.size]!)) [(0, .int .u64 n)] = some #[.int .u64 n]) :=
  ⟨_, _, rfl, rfl, rfl, rfl, by decide, fun n => by kernel_rfl⟩

theorem own_from {w : World} {base E size n : Nat} {v : Value} {xs : List Value} (h : w.ownsRow base E size v n xs) : ∀ k, some k = v.ownBlock → base ≤ k := by
  intro k hk
  rcases h.2 with ⟨rfl, _⟩ | ⟨g, cap, cur, rfl, hb, _⟩
  · simp [Value.ownBlock] at hk
  · simp [Value.ownBlock] at hk
    subst hk; exact hb

/-- a number put behind an own row -/
theorem wpList_append_u1 {w : World} {ops : Array Oper} {rest : List Oper} {o : Oper} {a : Act} {Q : Exit → Act → World → Prop}
    (hg : o.guard = none) (s x : Operand) (hop : o.op = Op.call { callee := Callee.builtin Builtin.append, args := #[s, x], argTypes := #[28, 28] })
    (base : Nat) (v : Value) (zs : List Nat) (b k : Nat) (hs : a.eval s = v) (hx : a.eval x = .slice (some ⟨b, 0, none⟩) 1 1) (h : w.ownsRow base 25 1 v zs.length (zs.map u64V)) (hb : Blk w b 25 #[u64V k]) (hbase : base ≤ w.heap.size) (hl : zs.length ≤ 1000)
    (hk : ∀ v' w', w'.ownsRow base 25 1 v' (zs.length + 1) ((zs ++ [k]).map u64V) → w.grownBy w' v.ownBlock → (v'.ownBlock = v.ownBlock ∨ v'.ownBlock = some w.heap.size) → wpList Tryz.prog ops Q rest (a.put o.dst v') w') :
    wpList Tryz.prog ops Q (o :: rest) a w := by
  refine wpList_plain hg fun K hK' => ?_
  obtain ⟨i25, z25, hi25, hz25, hsz25, hzs25, hby25, hf25⟩ := info25
  obtain ⟨v', w', hrun, r1, r2, _, r4⟩ := run_append_own_at (P := Tryz.prog) (w := w) base 28 o.type 25 i25 z25 1 i25.bytes Tryz.underlying28 hi25 hz25 hsz25 rfl hzs25 (by decide) v zs.length (zs.map u64V) h ⟨b, 0, none⟩ 1 1 [u64V k] rfl
    (fun j u hj => by rw [Addr.add_lit, Nat.zero_add, hb.cell]; simpa using hj) (by intro u hu; rw [List.mem_singleton] at hu; rw [hu]; rfl) (by unfold maxLen; omega) (by have := Nat.mul_le_mul (show zs.length + 1 ≤ 1001 by omega) hby25; omega) hbase
  unfold Oper.wp
  simp [execOp, hop, resolve, invoke, builtin, hs, hx, hrun, Result.andThen]
  exact hK' _ _ (hk v' w' (by rw [List.map_append]; exact r1) r2 r4)

/-- what stands while the set is gone through -/
structure GoT (W w : World) (b3 b5 b6 fs n : Nat) (h : Hd) (sz : Int) (v : Value) (zs : List Nat) : Prop where
  st : Blk w b3 80 (stC h sz 0 v).toArray
  own : w.ownsRow (b3 + 1) 25 1 v zs.length (zs.map u64V)
  out : ∀ k, some k = v.ownBlock → k ≠ b5 ∧ k ≠ b6 ∧ k < w.heap.size
  lo : Blk w b5 25 #[.int .u64 (fs : Int)]
  hi : Blk w b6 25 #[.int .u64 (n : Int)]
  keep : Keep (fun k => b3 ≤ k) W w

set_option maxHeartbeats 2000000 in
theorem clos_any {W w : World} {b3 b5 b6 bx fs n k : Nat} {h : Hd} {sz : Int} {v : Value} {zs : List Nat} (g : GoT W w b3 b5 b6 fs n h sz v zs) (hz : zs.length ≤ 1000) (h1 : fs ≤ k) (h2 : k ≤ n) (hn : n ≤ 1000) (l5 : b3 < b5) (l6 : b3 < b6) :
    Calls Tryz.prog 105 #[.int .u64 (k : Int), .pointer (some ⟨b5, 0, none⟩), .pointer (some ⟨b6, 0, none⟩), .pointer (some ⟨bx, 0, none⟩), .pointer (some ⟨b3, 0, none⟩)] w fun e w' => e = .returned (.bool true) ∧ ∃ v', GoT W w' b3 b5 b6 fs n h sz v' (zs ++ [k]) := by
  obtain ⟨i25, z25, hi25, hz25, hsz25, hzs25, hby25, hf25⟩ := info25
  have x5 : w.cell? ⟨b5, 0, none⟩ = some (.int .u64 (fs : Int)) := by rw [g.lo.cell]; rfl
  have x6 : w.cell? ⟨b6, 0, none⟩ = some (.int .u64 (n : Int)) := by rw [g.hi.cell]; rfl
  have x9 : w.cell? ⟨b3, 9, none⟩ = some v := by rw [g.st.cell]; rfl
  have g1 : (fs : Int) ≤ (k : Int) := by omega
  have g2 : (k : Int) ≤ (n : Int) := by omega
  have g3 : (n : Int) ≤ 1000 := by omega
  have g0 : (0 : Int) ≤ (fs : Int) := Int.natCast_nonneg _
  have hlt := g.st.lt
  have HG := Lib.hid g
  clear g
  go_enter Tryz.func105, Tryz.ntmps105
  go_wp2_with (first
    | (have hh := @wpList_build1 28 25 i25 z25 Tryz.underlying28 hi25 hz25 (by rw [hsz25]; decide) (by rw [hsz25]; decide); refine hh rfl (.tmp 22) rfl #[.int .u64 (k : Int)] (.int .u64 (k : Int)) (by rfl) (hf25 _) ?_; intro w1 hb1 hk1; have HB := Lib.hid (And.intro hb1 hk1); clear hb1 hk1)
    | (at_builtin; have hq := HB.out.1; refine wpList_append_u1 rfl (.tmp 21) (.tmp 23) rfl (b3 + 1) v zs w.heap.size k (by rfl) (by rfl) (ownsRow_keep HG.out.own HB.out.2 (fun _ _ _ h => h)) HB.out.1 (Nat.le_trans hlt HB.out.2.size) hz ?_; intro v' w2 hv2 hg2 hor; obtain ⟨A', c', rfl, hnc, hcm, hra, hbk⟩ := ownsRow_row hv2; have hb2 := (Keep.of_grown hg2).blk (HB.out.2.blk HG.out.st (fun h => h)) (fun e => by have := own_from HG.out.own _ e; omega); have y9 : w2.cell? ⟨b3, 9, none⟩ = some v := (by rw [hb2.cell]; rfl); have f9 := hb2.frozen 9; have H2 := Lib.hid (And.intro hv2 (And.intro (Keep.of_grown hg2) (And.intro hb2 hor))); clear hv2 hg2 hb2 hra hbk hcm hnc hor)
    | fail)
  go_ret
  have hwl := HB.out.2.size
  have kF : ∀ {x : Nat} {C : Array Value}, (∀ k, some k = v.ownBlock → k ≠ x) → x ≠ b3 → Blk w x 25 C → Blk (w2.setCell ⟨b3, 9, none⟩ (.slice A' (zs.length + 1) c')) x 25 C := by
    intro x C hx hxb hc
    exact (keep1 w2 b3 9 (.slice A' (zs.length + 1) c')).blk (H2.out.2.1.blk (HB.out.2.blk hc (fun h => h)) (fun e => hx _ e rfl)) hxb
  refine ⟨rfl, _, H2.out.2.2.1.set_ 9 (.slice A' (zs.length + 1) c'), ?_, fun q hq => ?_, kF (fun k hk => (HG.out.out k hk).1) (by omega) HG.out.lo, kF (fun k hk => (HG.out.out k hk).2.1) (by omega) HG.out.hi, ?_⟩
  · rw [List.length_append]
    exact ownsRow_keep H2.out.1 (keep1 w2 b3 9 _) (fun g C hg e => H2.out.2.2.1.ne_ (e ▸ hg) (by decide) rfl)
  · have hlo := HG.out.lo.lt
    have hhi := HG.out.hi.lt
    have hs2 := H2.out.2.1.size
    have hws : w.heap.size < (w2.setCell ⟨b3, 9, none⟩ (.slice A' (zs.length + 1) c')).heap.size := Nat.lt_of_lt_of_le HB.out.1.lt (Nat.le_trans hs2 (keep1 w2 b3 9 (.slice A' (zs.length + 1) c')).size)
    rcases H2.out.2.2.2 with e | e
    · rw [e] at hq
      obtain ⟨a, b, c⟩ := HG.out.out q hq
      exact ⟨a, b, by omega⟩
    · rw [e] at hq
      injection hq with hq
      have hx := own_from H2.out.1
      have hlw := (ownsRow_keep H2.out.1 (keep1 w2 b3 9 (.slice A' (zs.length + 1) c')) (fun g C hg e => H2.out.2.2.1.ne_ (e ▸ hg) (by decide) rfl))
      obtain ⟨A2, c2, e2, _, _, _, hb2⟩ := ownsRow_row hlw
      refine ⟨by omega, by omega, ?_⟩
      rcases hlw.2 with ⟨e3, _⟩ | ⟨g, cap, cur, e3, _, hgg, _⟩
      · rw [e3] at e; simp [Value.ownBlock] at e
      · rw [e3] at e
        simp only [Value.ownBlock] at e
        have hgl := (Array.getElem?_eq_some_iff.1 hgg).1
        injection e with e
        omega
  · exact (((HG.out.keep.trans HB.out.2 (fun _ _ h => h.elim)).trans H2.out.2.1 (fun k hk e => by have := own_from HG.out.own _ e; omega))).put (Nat.le_refl _) 9 _

end Go.Proofs.YtmblkpjnafgplaaGreatDoor
