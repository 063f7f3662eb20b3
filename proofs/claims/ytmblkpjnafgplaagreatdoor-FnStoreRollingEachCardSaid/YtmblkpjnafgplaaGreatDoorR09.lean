/- The locks: their functions and types by number. PRINTED by wip/gen_lk.py after the kit's RwboxLocks. Small functions of the store. -/
import Derived.Test.YtmblkpjnafgplaaGreatDoorR00
import Derived.Test.YtmblkpjnafgplaaGreatDoorProg
import Derived.Conc.RwLib
import Derived.Conc.MuData
import Derived.Conc.RwLoneW
import Derived.KernelRfl
import Derived.Test.YtmblkpjnafgplaaGreatDoorR02
namespace Go.Proofs.YtmblkpjnafgplaaGreatDoor
open Go Go.RowKit
abbrev muLink : Go.Conc.Locks.MuLink := { lock := 117, unlock := 129, ilock := 181, iunlock := 188, lockSlow := 230, unlockSlow := 239, disable := 116, enable := 120, acquire := 121, relMerge := 126, cas32 := 229, add32 := 182, tMutex := 72, tIMutex := 70, tPMutex := 187, tPIMutex := 310, tPI32 := 264, tUP := 186, tNoCopy := 67, tU32 := 68 }
theorem muLib : Go.Conc.Locks.MuLib Tryz.prog muLink :=
  ⟨Tryz.func117, Tryz.func129, Tryz.func181, Tryz.func188, Tryz.func116, Tryz.func120, Tryz.func121, Tryz.func126, Tryz.func229, Tryz.func182, Tryz.underlying70, Tryz.runUnderlying70, Tryz.sizeOf70, Tryz.isAgg70, Tryz.zeroValue70, Tryz.underlying72, Tryz.runUnderlying72, Tryz.sizeOf72, Tryz.isAgg72, Tryz.zeroValue72, Tryz.underlying187, Tryz.runUnderlying187, Tryz.sizeOf187, Tryz.isAgg187, Tryz.zeroValue187, Tryz.underlying310, Tryz.runUnderlying310, Tryz.sizeOf310, Tryz.isAgg310, Tryz.zeroValue310, Tryz.underlying264, Tryz.runUnderlying264, Tryz.sizeOf264, Tryz.isAgg264, Tryz.zeroValue264, Tryz.underlying186, Tryz.runUnderlying186, Tryz.sizeOf186, Tryz.isAgg186, Tryz.zeroValue186, Tryz.underlying67, Tryz.runUnderlying67, Tryz.sizeOf67, Tryz.isAgg67, Tryz.zeroValue67, Tryz.underlying21, Tryz.runUnderlying21, Tryz.sizeOf21, Tryz.isAgg21, Tryz.zeroValue21, (by kernel_rfl)⟩
theorem muData : Go.Conc.Locks.MuData Tryz.prog muLink := ⟨Tryz.underlying68, by kernel_rfl, by kernel_rfl, by kernel_rfl, by kernel_rfl, by kernel_rfl⟩
abbrev rwLink : Go.Conc.Locks.RwLink := { lock := 117, unlock := 129, ilock := 181, iunlock := 188, lockSlow := 230, unlockSlow := 239, disable := 116, enable := 120, acquire := 121, relMerge := 126, cas32 := 229, add32 := 182, tMutex := 72, tIMutex := 70, tPMutex := 187, tPIMutex := 310, tPI32 := 264, tUP := 186, tNoCopy := 67, tU32 := 68, rlock := 63, runlock := 65, wlock := 60, wunlock := 62, i32add := 118, raceRead := 115, release := 125, rUnlockSlow := 131, semacqR := 130, semacqW := 119, semrel := 128, sfatal := 127, tRW := 77, tPRW := 184, tAI32 := 75, tPAI32 := 262, tPU32 := 190, tANoCopy := 73 }
theorem rwCore : Go.Conc.Locks.RwCore Tryz.prog rwLink :=
  ⟨Tryz.func118, Tryz.func115, Tryz.func116, Tryz.func120, Tryz.func121, Tryz.func126, Tryz.func182, Tryz.underlying77, Tryz.runUnderlying77, Tryz.sizeOf77, Tryz.isAgg77, Tryz.zeroValue77, Tryz.underlying75, Tryz.runUnderlying75, Tryz.sizeOf75, Tryz.isAgg75, Tryz.zeroValue75, Tryz.underlying184, Tryz.runUnderlying184, Tryz.sizeOf184, Tryz.isAgg184, Tryz.zeroValue184, Tryz.underlying262, Tryz.runUnderlying262, Tryz.sizeOf262, Tryz.isAgg262, Tryz.zeroValue262, Tryz.underlying190, Tryz.runUnderlying190, Tryz.sizeOf190, Tryz.isAgg190, Tryz.zeroValue190, Tryz.underlying73, Tryz.runUnderlying73, Tryz.sizeOf73, Tryz.isAgg73, Tryz.zeroValue73, Tryz.underlying68, Tryz.runUnderlying68, Tryz.sizeOf68, Tryz.isAgg68, Tryz.zeroValue68, Tryz.underlying72, Tryz.runUnderlying72, Tryz.sizeOf72, Tryz.isAgg72, Tryz.zeroValue72, Tryz.underlying187, Tryz.runUnderlying187, Tryz.sizeOf187, Tryz.isAgg187, Tryz.zeroValue187, Tryz.underlying264, Tryz.runUnderlying264, Tryz.sizeOf264, Tryz.isAgg264, Tryz.zeroValue264, Tryz.underlying186, Tryz.runUnderlying186, Tryz.sizeOf186, Tryz.isAgg186, Tryz.zeroValue186, Tryz.underlying21, Tryz.runUnderlying21, Tryz.sizeOf21, Tryz.isAgg21, Tryz.zeroValue21, (by kernel_rfl), (by kernel_rfl)⟩
theorem rwRLib : Go.Conc.Locks.RwRLib Tryz.prog rwLink := ⟨rwCore, Tryz.func63, Tryz.func65⟩
theorem rwWLib : Go.Conc.Locks.RwWLib Tryz.prog rwLink := ⟨rwCore, muLib, Tryz.func60, Tryz.func62, Tryz.func125, Tryz.underlying3, Tryz.runUnderlying3, Tryz.sizeOf3, Tryz.isAgg3, Tryz.zeroValue3⟩
end Go.Proofs.YtmblkpjnafgplaaGreatDoor

namespace Go.Proofs.YtmblkpjnafgplaaGreatDoor
open Go Go.RowKit
set_option linter.unusedVariables false
set_option linter.unusedSimpArgs false

/-- append of bytes onto an own row, for the walk -/
theorem wpList_append_b (w : World) {ops : Array Oper} {rest : List Oper} {o : Oper} {a : Act} {Q : Exit → Act → World → Prop}
    (hg : o.guard = none) (s x : Operand) (hop : o.op = Op.call { callee := Callee.builtin Builtin.append, args := #[s, x], argTypes := #[37, 37] })
    (base : Nat) (v : Value) (xs : Bs) (A : Option Addr) (m c : Nat) (ys : Bs) (hs : a.eval s = v) (hx : a.eval x = .slice A m c) (h : BRow w base v xs) (hA : RowAt w 1 A m (ys.map byteV)) (hbase : base ≤ w.heap.size)
    (hl : xs.length + m ≤ 140737488355328)
    (hk : ∀ v' w', BRow w' base v' (xs ++ ys) → w.grownBy w' v.ownBlock → wpList Tryz.prog ops Q rest (a.put o.dst v') w') :
    wpList Tryz.prog ops Q (o :: rest) a w := by
  refine wpList_plain hg fun K hK' => ?_
  obtain ⟨v', w', hrun, r1, r2⟩ := append_bytes base v xs A m c ys w o.type h hA hbase hl
  unfold Oper.wp
  simp [execOp, hop, resolve, invoke, builtin, hs, hx, hrun, Result.andThen]
  exact hK' _ _ (hk v' w' r1 r2)

theorem BRow.made (w : World) (cur : Array Value) (cap : Nat) (hm : cap ≤ maxLen) (hs : cur.size = cap) : BRow (w.alloc (.cells cur 5)) w.heap.size (.slice (some ⟨w.heap.size, 0, none⟩) 0 cap) [] :=
  World.ownsRow_made w cur cap (Nat.le_refl _) hm (by simpa using hs)

theorem grown_keep {B : Nat} {a w w' : World} {v : Value} {xs : Bs} (hk : Keep NoB a w) (h : BRow w B v xs) (hB : a.heap.size ≤ B) (hg : w.grownBy w' v.ownBlock) : Keep NoB a w' := by
  refine ⟨hg.os.trans hk.os, hg.tape.trans hk.tape, hg.output.trans hk.output, Nat.le_trans hk.size hg.size, fun k hk' _ => ?_⟩
  rw [hg.block k (Nat.lt_of_lt_of_le hk' hk.size) (fun e => by have := (h.lt k e.symm).1; omega), hk.block k hk' (fun h => h)]

set_option maxHeartbeats 1000000 in
theorem copied_any (A : Option Addr) (m c : Nat) (ys : Bs) (w : World) (h : RowAt w 1 A m (ys.map byteV)) (hl : m ≤ 140737488355328) :
    Calls Tryz.prog 25 #[.slice A m c] w fun e w' => ∃ v, e = .returned v ∧ BRow w' w.heap.size v ys ∧ Keep NoB w w' := by
  have hk0 : Keep NoB w (w.alloc (.cells #[] 5)) := (Keep.refl NoB w).alloc _
  go_enter Tryz.func25, Tryz.ntmps25
  go_wp2_with (first | (at_builtin; refine wpList_append_b _ rfl _ _ rfl w.heap.size _ [] A m c ys rfl rfl (BRow.made w #[] 0 (by decide) rfl) (h.keep hk0 (fun _ _ _ h => h)) (by simp) (by simpa using hl) ?_; intro v' w' hv' hg') | fail)
  go_ret
  exact ⟨_, rfl, hv', grown_keep hk0 (BRow.made w #[] 0 (by decide) rfl) (Nat.le_refl _) hg'⟩

end Go.Proofs.YtmblkpjnafgplaaGreatDoor
