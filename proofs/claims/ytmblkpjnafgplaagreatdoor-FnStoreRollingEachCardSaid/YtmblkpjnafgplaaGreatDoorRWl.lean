/- The walk at a map's operations and at a make of bytes. -/
import Derived.Test.YtmblkpjnafgplaaGreatDoorR09
import Derived.Laws.MakeOwn
import Derived.Deep.RegionLawGrows
namespace Go.Proofs.YtmblkpjnafgplaaGreatDoor
open Go Go.RowKit
set_option maxRecDepth 100000
set_option linter.unusedVariables false
set_option linter.unusedSimpArgs false

section
variable {w : World} {ops : Array Oper} {rest : List Oper} {o : Oper} {a : Act} {Q : Exit → Act → World → Prop} {r : Nat} {L : List (Nat × Nat)}

theorem wpList_put (hg : o.guard = none) (m k v : Operand) (hop : o.op = .mapUpdate 81 m k v) (key b : Nat) (hm : a.eval m = .map (some r)) (hk : a.eval k = .int .u64 (key : Int)) (hv : a.eval v = .pointer (some ⟨b, 0, none⟩))
    (h : MapAt w r L) (hn : ∀ x ∈ L, x.1 ≠ key) (hgo : ∀ w', MapAt w' r (L ++ [(key, b)]) → Keep (fun x => x = r) w w' → wpList Tryz.prog ops Q rest (a.put o.dst (.tuple #[])) w') :
    wpList Tryz.prog ops Q (o :: rest) a w := by
  refine wpList_plain hg fun K hK' => ?_
  obtain ⟨w', hrun, r1, r2⟩ := h.put key b hn
  unfold Oper.wp
  simp [execOp, hop, hm, hk, hv, hrun, Result.andThen]
  exact hK' _ _ (hgo w' r1 r2)

theorem wpList_look (hg : o.guard = none) (m k : Operand) (hop : o.op = .lookup 81 m k true) (key b : Nat) (hm : a.eval m = .map (some r)) (hk : a.eval k = .int .u64 (key : Int))
    (h : MapAt w r L) (hd : (L.map Prod.fst).Nodup) (hn : (key, b) ∈ L) (hgo : wpList Tryz.prog ops Q rest (a.put o.dst (.tuple #[.pointer (some ⟨b, 0, none⟩), .bool true])) w) :
    wpList Tryz.prog ops Q (o :: rest) a w := by
  refine wpList_plain hg fun K hK' => ?_
  have hrun := h.look_yes hd key b hn true
  unfold Oper.wp
  simp [execOp, hop, hm, hk, hrun, Result.andThen]
  exact hK' _ _ hgo

theorem wpList_look_no (hg : o.guard = none) (m k : Operand) (hop : o.op = .lookup 81 m k true) (key : Nat) (hm : a.eval m = .map (some r)) (hk : a.eval k = .int .u64 (key : Int))
    (h : MapAt w r L) (hn : ∀ x ∈ L, x.1 ≠ key) (hgo : wpList Tryz.prog ops Q rest (a.put o.dst (.tuple #[.pointer none, .bool false])) w) :
    wpList Tryz.prog ops Q (o :: rest) a w := by
  refine wpList_plain hg fun K hK' => ?_
  have hrun := h.look_no key hn true
  unfold Oper.wp
  simp [execOp, hop, hm, hk, hrun, Result.andThen]
  exact hK' _ _ hgo

theorem wpList_make37 (hg : o.guard = none) (x y : Operand) (hop : o.op = .makeSlice 37 x y) (c : Nat) (hx : a.eval x = .int .i64 0) (hy : a.eval y = .int .i64 (c : Int)) (hc : c ≤ 140737488355328)
    (hgo : ∀ w', BRow w' w.heap.size (.slice (some ⟨w.heap.size, 0, none⟩) 0 c) [] → Keep NoB w w' → wpList Tryz.prog ops Q rest (a.put o.dst (.slice (some ⟨w.heap.size, 0, none⟩) 0 c)) w') :
    wpList Tryz.prog ops Q (o :: rest) a w := by
  refine wpList_plain hg fun K hK' => ?_
  have hi5 : ∃ i, Tryz.prog.info? 5 = some i ∧ i.zero = some (.int .u8 0) ∧ i.size = 1 ∧ i.bytes = 1 := ⟨_, rfl, rfl, rfl, rfl⟩
  obtain ⟨i, hi, hz, hsz, hby⟩ := hi5
  obtain ⟨w', hrun, r1, r2⟩ := run_make_own (P := Tryz.prog) w w.heap.size 37 5 i (.int .u8 0) 1 Tryz.underlying37 hi hz hsz .i64 .i64 c (by rw [hby]; omega) (by unfold maxLen; omega) (Nat.le_refl _)
  unfold Oper.wp
  simp [execOp, hop, hx, hy, hrun, Result.andThen]
  exact hK' _ _ (hgo w' r1 ⟨r2.os, r2.tape, r2.output, r2.size, fun k hk _ => r2.block k hk (by simp)⟩)
end

theorem step_append_b {ops : Array Oper} {o : Oper} {a : Act} {w : World} {K : Act → World → Prop} {Q : Exit → Act → World → Prop} {E : Prop}
    (hg : o.guard = none) (s x : Operand) (hop : o.op = Op.call { callee := Callee.builtin Builtin.append, args := #[s, x], argTypes := #[37, 37] })
    (base : Nat) (v : Value) (xs : Bs) (A : Option Addr) (m c : Nat) (ys : Bs) (hs : a.eval s = v) (hx : a.eval x = .slice A m c) (h : BRow w base v xs) (hA : RowAt w 1 A m (ys.map byteV)) (hbase : base ≤ w.heap.size)
    (hl : xs.length + m ≤ 140737488355328)
    (hK : ∀ v' w', BRow w' base v' (xs ++ ys) → w.grownBy w' v.ownBlock → K (a.put o.dst v') w') :
    if Region.wanted o (yielded ops a.tmps) = true then Oper.wp Tryz.prog o a w K Q else E := by
  have hw : Region.wanted o (yielded ops a.tmps) = true := by simp [Region.wanted, hg]
  rw [if_pos hw]
  obtain ⟨v', w', hrun, r1, r2⟩ := append_bytes base v xs A m c ys w o.type h hA hbase hl
  unfold Oper.wp
  simp [execOp, hop, resolve, invoke, builtin, hs, hx, hrun, Result.andThen]
  exact hK v' w' r1 r2

end Go.Proofs.YtmblkpjnafgplaaGreatDoor
