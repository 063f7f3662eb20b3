/- Maps from numbers to pointers, rows of bytes that grow: laws of single operations. The methods of the interface node, kind by kind: which function is called, at which receiver. PRINTED by wip/gen_sm.py. -/
import Derived.Test.YtmblkpjnafgplaaGreatDoorR00
import Derived.Test.YtmblkpjnafgplaaGreatDoorProg
import Derived.MapKept
import Derived.Laws.AppendOwn
import Derived.KernelRfl
namespace Go.Proofs.YtmblkpjnafgplaaGreatDoor
open Go Go.RowKit Go.MapKept
set_option maxRecDepth 100000
set_option linter.unusedVariables false
set_option linter.unusedSimpArgs false

/-- an entry's key and value -/
abbrev kv (e : Nat × Nat) : Value × Value := (.int .u64 (e.1 : Int), .pointer (some ⟨e.2, 0, none⟩))

/-- block r is a map with these entries: numbers to blocks -/
def MapAt (w : World) (r : Nat) (L : List (Nat × Nat)) : Prop :=
  ∃ es clock, w.heap[r]? = some (.map es clock) ∧ es.toList.map (fun e => (e.key, e.val)) = L.map kv

theorem MapAt.lt {w : World} {r : Nat} {L : List (Nat × Nat)} (h : MapAt w r L) : r < w.heap.size := by
  obtain ⟨es, c, h, _⟩ := h
  rcases Nat.lt_or_ge r w.heap.size with hlt | hge
  · exact hlt
  · rw [Array.getElem?_eq_none hge] at h; cases h
theorem MapAt.keep {w w' : World} {r : Nat} {L : List (Nat × Nat)} {F : Nat → Prop} (h : MapAt w r L) (hk : Keep F w w') (hn : ¬ F r) : MapAt w' r L := by
  obtain ⟨es, c, h, e⟩ := h
  exact ⟨es, c, hk.obj h hn, e⟩

theorem MapAt.keys {es : Array MapEntry} {L : List (Nat × Nat)} (e : es.toList.map (fun e => (e.key, e.val)) = L.map kv) : ∀ x ∈ es.toList, IsKey (.int .u64) x.key := by
  intro x hx
  have : (x.key, x.val) ∈ L.map kv := by rw [← e]; exact List.mem_map.2 ⟨x, hx, rfl⟩
  obtain ⟨y, _, hy⟩ := List.mem_map.1 this
  have h1 : x.key = .int .u64 (y.1 : Int) := (congrArg Prod.fst hy).symm
  rw [h1]; rfl

/-- the value found at a key -/
theorem findNow_kv (k : Nat) : ∀ (l : List MapEntry) (L : List (Nat × Nat)) (i : Nat), l.map (fun e => (e.key, e.val)) = L.map kv →
    (Instr.findNow (.int .u64) (.int .u64 (k : Int)) l i = some none ∧ ∀ x ∈ L, x.1 ≠ k) ∨
    ∃ j b, Instr.findNow (.int .u64) (.int .u64 (k : Int)) l i = some (some (i + j, .pointer (some ⟨b, 0, none⟩))) ∧ L[j]? = some (k, b) ∧ ∀ x ∈ L.take j, x.1 ≠ k
  | [], L, i, h => by
    have : L = [] := by simpa using h.symm
    subst this
    exact .inl ⟨rfl, by simp⟩
  | e :: es, [], i, h => by simp at h
  | e :: es, (k', b') :: L, i, h => by
    simp only [List.map_cons, List.cons.injEq, Prod.mk.injEq] at h
    obtain ⟨⟨hk, hv⟩, ht⟩ := h
    by_cases hkk : k' = k
    · subst hkk
      refine .inr ⟨0, b', ?_, rfl, by simp⟩
      simp [Instr.findNow, hk, hv, Instr.sameNow]
    · have hne : ¬ (k : Int) = (k' : Int) := by omega
      have hs : Instr.findNow (.int .u64) (.int .u64 (k : Int)) (e :: es) i = Instr.findNow (.int .u64) (.int .u64 (k : Int)) es (i + 1) := by
        have hb : ((k : Int) == (k' : Int)) = false := by simpa using hne
        simp only [Instr.findNow, hk, Instr.sameNow, hb, if_true]
      rcases findNow_kv k es L (i + 1) ht with ⟨h1, h2⟩ | ⟨j, b, h1, h2, h3⟩
      · refine .inl ⟨hs.trans h1, fun x hx => ?_⟩
        rcases List.mem_cons.1 hx with rfl | hx
        · exact hkk
        · exact h2 x hx
      · refine .inr ⟨j + 1, b, ?_, by simpa using h2, fun x hx => ?_⟩
        · rw [hs, h1]; congr 3; omega
        · rw [List.take_succ_cons] at hx
          rcases List.mem_cons.1 hx with rfl | hx
          · exact hkk
          · exact h3 x hx

section
variable {w : World} {r : Nat} {L : List (Nat × Nat)}

theorem MapAt.look_no (h : MapAt w r L) (k : Nat) (hk : ∀ x ∈ L, x.1 ≠ k) (ok : Bool) :
    (Instr.lookup 81 (.map (some r)) (.int .u64 (k : Int)) ok).run Tryz.prog w = .ok (if ok then .tuple #[.pointer none, .bool false] else .pointer none) w := by
  obtain ⟨es, c, hb, e⟩ := h
  rcases findNow_kv k es.toList L 0 e with ⟨h1, _⟩ | ⟨j, b, _, h2, _⟩
  · have hz : (zeroValue 102).run Tryz.prog w = .ok (.pointer none) w := by kernel_rfl
    cases ok <;> simp [Instr.lookup, run_underlying Tryz.underlying81, Go.MapKept.run_getObj_map hb, Go.MapKept.run_checkKey Tryz.underlying25 (k := .int .u64 (k : Int)) rfl, Go.MapKept.run_findKey Tryz.underlying25 h1, Result.andThen, hz]
  · exact absurd rfl (hk _ (List.mem_of_getElem? h2))

theorem MapAt.look_yes (h : MapAt w r L) (hd : (L.map Prod.fst).Nodup) (k b : Nat) (hk : (k, b) ∈ L) (ok : Bool) :
    (Instr.lookup 81 (.map (some r)) (.int .u64 (k : Int)) ok).run Tryz.prog w = .ok (if ok then .tuple #[.pointer (some ⟨b, 0, none⟩), .bool true] else .pointer (some ⟨b, 0, none⟩)) w := by
  obtain ⟨es, c, hb, e⟩ := h
  rcases findNow_kv k es.toList L 0 e with ⟨_, h1⟩ | ⟨j, b', h1, h2, _⟩
  · exact absurd rfl (h1 _ hk)
  · have hbb : b' = b := by
      obtain ⟨i, hi, hie⟩ := List.mem_iff_getElem.1 hk
      obtain ⟨hj, hje⟩ := List.getElem?_eq_some_iff.1 h2
      have hij : i = j := by
        have hd' := List.pairwise_iff_getElem.1 hd
        rcases Nat.lt_trichotomy i j with h | h | h
        · exact absurd (by rw [List.getElem_map, List.getElem_map, hie, hje]) (hd' i j (by simpa using hi) (by simpa using hj) h)
        · exact h
        · exact absurd (by rw [List.getElem_map, List.getElem_map, hie, hje]) (hd' j i (by simpa using hj) (by simpa using hi) h)
      subst hij
      rw [hie] at hje
      exact (congrArg Prod.snd hje).symm
    subst hbb
    cases ok <;> simp [Instr.lookup, run_underlying Tryz.underlying81, Go.MapKept.run_getObj_map hb, Go.MapKept.run_checkKey Tryz.underlying25 (k := .int .u64 (k : Int)) rfl, Go.MapKept.run_findKey Tryz.underlying25 h1, Result.andThen]

/-- a new key -/
theorem MapAt.put (h : MapAt w r L) (k b : Nat) (hk : ∀ x ∈ L, x.1 ≠ k) :
    ∃ w', (Instr.mapUpdate 81 (.map (some r)) (.int .u64 (k : Int)) (.pointer (some ⟨b, 0, none⟩))).run Tryz.prog w = .ok () w' ∧ MapAt w' r (L ++ [(k, b)]) ∧ Keep (fun x => x = r) w w' := by
  have hr := h.lt
  obtain ⟨es, c, hb, e⟩ := h
  rcases findNow_kv k es.toList L 0 e with ⟨h1, _⟩ | ⟨j, b, _, h2, _⟩
  · refine ⟨{ w with heap := w.heap.setIfInBounds r (.map (es.push { key := .int .u64 (k : Int), val := .pointer (some ⟨b, 0, none⟩), born := c }) (c + 1)) }, ?_, ⟨_, _, (Go.MapKept.heap_set hb).1, ?_⟩, ?_⟩
    · simp [Instr.mapUpdate, run_underlying Tryz.underlying81, Go.MapKept.run_getObj_map hb, Go.MapKept.run_checkKey Tryz.underlying25 (k := .int .u64 (k : Int)) rfl, Go.MapKept.run_findKey Tryz.underlying25 h1, Go.MapKept.run_setObj_map _ hb, Result.andThen]
    · simp [e]
    · exact ⟨rfl, rfl, rfl, by simp, fun x hx hn => (Go.MapKept.heap_set hb).2 x hn⟩
  · exact absurd rfl (hk _ (List.mem_of_getElem? h2))

/-- a key taken out -/
theorem MapAt.del (h : MapAt w r L) (hd : (L.map Prod.fst).Nodup) (k b : Nat) (hk : (k, b) ∈ L) (ty : TypeId) :
    ∃ w', (Builtin.delete_ #[81, 25] ty #[.map (some r), .int .u64 (k : Int)]).run Tryz.prog w = .ok (.tuple #[]) w' ∧ MapAt w' r (L.filter fun x => x.1 != k) ∧ Keep (fun x => x = r) w w' := by
  have hr := h.lt
  obtain ⟨es, c, hb, e⟩ := h
  rcases findNow_kv k es.toList L 0 e with ⟨_, h1⟩ | ⟨j, b', h1, h2, h3⟩
  · exact absurd rfl (h1 _ hk)
  · obtain ⟨hj, hje⟩ := List.getElem?_eq_some_iff.1 h2
    have hje' : es.toList.length = L.length := by have := congrArg List.length e; simpa using this
    have hesj : j < es.size := by rw [← Array.length_toList, hje']; exact hj
    refine ⟨{ w with heap := w.heap.setIfInBounds r (.map (es.eraseIdxIfInBounds j) c) }, ?_, ⟨_, _, (Go.MapKept.heap_set hb).1, ?_⟩, ?_⟩
    · simp [Builtin.delete_, run_underlying Tryz.underlying81, Go.MapKept.run_getObj_map hb, Go.MapKept.run_checkKey Tryz.underlying25 (k := .int .u64 (k : Int)) rfl, Go.MapKept.run_findKey Tryz.underlying25 h1, Go.MapKept.run_setObj_map _ hb, Result.andThen]
    · unfold Array.eraseIdxIfInBounds
      rw [dif_pos hesj, Array.toList_eraseIdx, List.eraseIdx_eq_take_drop_succ, List.map_append, List.map_take, List.map_drop, e, ← List.map_take, ← List.map_drop, ← List.map_append]
      congr 1
      have hsp : L = L.take j ++ (k, b') :: L.drop (j + 1) := by
        conv => lhs; rw [← List.take_append_drop j L, List.drop_eq_getElem_cons hj, hje]
      have hnd : ∀ x ∈ L.drop (j + 1), x.1 ≠ k := by
        intro x hx hxk
        rw [hsp] at hd
        simp only [List.map_append, List.map_cons] at hd
        have h4 := (List.nodup_append.1 hd).2.1
        exact (List.nodup_cons.1 h4).1 (List.mem_map.2 ⟨x, hx, hxk⟩)
      have f1 : (L.take j).filter (fun x => x.1 != k) = L.take j := List.filter_eq_self.2 fun x hx => by simpa using h3 x hx
      have f2 : (L.drop (j + 1)).filter (fun x => x.1 != k) = L.drop (j + 1) := List.filter_eq_self.2 fun x hx => by simpa using hnd x hx
      conv => rhs; rw [hsp, List.filter_append, f1, List.filter_cons_of_neg (by simp), f2]
    · exact ⟨rfl, rfl, rfl, by simp, fun x hx hn => (Go.MapKept.heap_set hb).2 x hn⟩
end

/-- v is a row of the call's own (from block base on) that holds these bytes -/
abbrev BRow (w : World) (base : Nat) (v : Value) (xs : Bs) : Prop := w.ownsRow base 5 1 v xs.length (xs.map byteV)

theorem BRow.row {w : World} {base : Nat} {v : Value} {xs : Bs} (h : BRow w base v xs) : ∃ A c, v = .slice A xs.length c ∧ xs.length ≤ c ∧ c ≤ maxLen ∧ RowAt w 1 A xs.length (xs.map byteV) ∧ (∀ k, blkOf A k → base ≤ k ∧ k < w.heap.size) := by
  rcases h.2 with ⟨rfl, h0⟩ | ⟨g, cap, cur, rfl, hb, hg, hnc, hcm, hcs, ht⟩
  · have : xs = [] := List.eq_nil_of_length_eq_zero h0
    subst this
    exact ⟨none, 0, rfl, Nat.le_refl _, by decide, .nil_ _ _ _, fun k hk => by obtain ⟨ad, e, _⟩ := hk; cases e⟩
  · have hlt : g < w.heap.size := (Array.getElem?_eq_some_iff.1 hg).1
    refine ⟨some ⟨g, 0, none⟩, cap, rfl, hnc, hcm, ⟨by simp, fun _ => ⟨_, rfl, rfl, fun j u hj => ?_⟩⟩, fun k hk => ?_⟩
    · have := h.cells (g := g) rfl j u hj
      rwa [show (⟨g, 0, none⟩ : Addr).add j = ⟨g, 0 + j, none⟩ from Addr.add_lit ..] at this
    · obtain ⟨ad, e, rfl⟩ := hk
      injection e with e; subst e
      exact ⟨hb, hlt⟩

theorem append_bytes (base : Nat) (v : Value) (xs : Bs) (A : Option Addr) (m c : Nat) (ys : Bs) (w : World) (ty : TypeId) (h : BRow w base v xs) (hA : RowAt w 1 A m (ys.map byteV)) (hbase : base ≤ w.heap.size)
    (hl : xs.length + m ≤ 140737488355328) :
    ∃ v' w', (Builtin.append_ #[37, 37] ty #[v, .slice A m c]).run Tryz.prog w = .ok v' w' ∧ BRow w' base v' (xs ++ ys) ∧ w.grownBy w' v.ownBlock := by
  have hm : ys.length = m := by simpa using hA.1
  have hmx : xs.length + m ≤ maxLen := by unfold maxLen; omega
  have hi5 : ∃ i, Tryz.prog.info? 5 = some i ∧ i.zero = some (.int .u8 0) ∧ i.size = 1 ∧ i.bytes = 1 := ⟨_, rfl, rfl, rfl, rfl⟩
  obtain ⟨i, hi, hz, hsz, hby⟩ := hi5
  have h1 : ∀ u ∈ ys.map byteV, u.oneCell' = true := by
    intro u hu
    obtain ⟨b, _, rfl⟩ := List.mem_map.1 hu
    rfl
  have some_ : ∀ ad : Addr, (∀ j u, (ys.map byteV)[j]? = some u → w.cell? (ad.add j) = some u) → ∃ v' w', (Builtin.append_ #[37, 37] ty #[v, .slice (some ad) m c]).run Tryz.prog w = .ok v' w' ∧ BRow w' base v' (xs ++ ys) ∧ w.grownBy w' v.ownBlock := by
    intro ad hc
    obtain ⟨v', w', r1, r2, r3, _⟩ := run_append_own (P := Tryz.prog) w base 37 ty 5 i (.int .u8 0) 1 1 Tryz.underlying37 hi hz hsz hby rfl (by decide) v xs.length (xs.map byteV) h ad m c (ys.map byteV) (by simp [hm]) hc h1 hmx (by omega) hbase
    refine ⟨v', w', r1, ?_, r3⟩
    show w'.ownsRow base 5 1 v' (xs ++ ys).length ((xs ++ ys).map byteV)
    rw [List.length_append, hm, List.map_append]
    exact r2
  rcases Nat.eq_zero_or_pos m with rfl | hpos
  · have : ys = [] := List.eq_nil_of_length_eq_zero hm
    subst this
    cases A with
    | some ad => exact some_ ad (fun j u hj => by simp at hj)
    | none =>
      refine ⟨v, w, ?_, by simpa using h, ⟨rfl, rfl, rfl, Nat.le_refl _, fun _ _ _ => rfl⟩⟩
      rcases h.2 with ⟨rfl, h0⟩ | ⟨g, cap, cur, rfl, hb, hg, hnc, hcm, hcs, ht⟩
      · simp [Builtin.append_, run_underlying Tryz.underlying37, sizeOf, typeInfo, hi, Builtin.lenOf, Builtin.firstCells]
      · simp [Builtin.append_, run_underlying Tryz.underlying37, sizeOf, typeInfo, hi, Builtin.lenOf, Builtin.firstCells, hnc, storeCells]
  · obtain ⟨⟨ab, ao, as_⟩, rfl, rfl, hc⟩ := hA.2 hpos
    exact some_ _ (fun j u hj => by rw [Addr.add_lit]; exact hc j u hj)

end Go.Proofs.YtmblkpjnafgplaaGreatDoor

namespace Go.Proofs.YtmblkpjnafgplaaGreatDoor
open Go

theorem me_leaf_isLeaf (b : Nat) (w : World) : (method 504 265 (.pointer (some ⟨b, 0, none⟩)) "pub-streamkeep/pub/natsserver/server/stree.isLeaf").run Tryz.prog w = .ok (334, .pointer (some ⟨b, 0, none⟩)) w := by kernel_rfl
theorem me_n4_addChild (b : Nat) (w : World) : (method 504 314 (.pointer (some ⟨b, 0, none⟩)) "pub-streamkeep/pub/natsserver/server/stree.addChild").run Tryz.prog w = .ok (238, .pointer (some ⟨b, 0, none⟩)) w := by kernel_rfl
theorem me_n4_findChild (b : Nat) (w : World) : (method 504 314 (.pointer (some ⟨b, 0, none⟩)) "pub-streamkeep/pub/natsserver/server/stree.findChild").run Tryz.prog w = .ok (349, .pointer (some ⟨b, 0, none⟩)) w := by kernel_rfl
theorem me_n4_grow (b : Nat) (w : World) : (method 504 314 (.pointer (some ⟨b, 0, none⟩)) "pub-streamkeep/pub/natsserver/server/stree.grow").run Tryz.prog w = .ok (350, .pointer (some ⟨b, 0, none⟩)) w := by kernel_rfl
theorem me_n4_isFull (b : Nat) (w : World) : (method 504 314 (.pointer (some ⟨b, 0, none⟩)) "pub-streamkeep/pub/natsserver/server/stree.isFull").run Tryz.prog w = .ok (351, .pointer (some ⟨b, 0, none⟩)) w := by kernel_rfl
theorem me_n4_isLeaf (b : Nat) (w : World) : (method 504 314 (.pointer (some ⟨b, 0, none⟩)) "pub-streamkeep/pub/natsserver/server/stree.isLeaf").run Tryz.prog w = .ok (342, .pointer (some ⟨b, 4, none⟩)) w := by kernel_rfl
theorem me_n4_base (b : Nat) (w : World) : (method 504 314 (.pointer (some ⟨b, 0, none⟩)) "pub-streamkeep/pub/natsserver/server/stree.base").run Tryz.prog w = .ok (341, .pointer (some ⟨b, 4, none⟩)) w := by kernel_rfl
theorem me_n4_setPrefix (b : Nat) (w : World) : (method 504 314 (.pointer (some ⟨b, 0, none⟩)) "pub-streamkeep/pub/natsserver/server/stree.setPrefix").run Tryz.prog w = .ok (268, .pointer (some ⟨b, 4, none⟩)) w := by kernel_rfl
theorem na_n4_addChild (b : Nat) (w : World) : (nilAhead 504 314 (.pointer (some ⟨b, 0, none⟩)) "pub-streamkeep/pub/natsserver/server/stree.addChild").run Tryz.prog w = .ok (some false) w := by kernel_rfl
theorem na_n4_findChild (b : Nat) (w : World) : (nilAhead 504 314 (.pointer (some ⟨b, 0, none⟩)) "pub-streamkeep/pub/natsserver/server/stree.findChild").run Tryz.prog w = .ok (some false) w := by kernel_rfl
theorem na_n4_setPrefix (b : Nat) (w : World) : (nilAhead 504 314 (.pointer (some ⟨b, 0, none⟩)) "pub-streamkeep/pub/natsserver/server/stree.setPrefix").run Tryz.prog w = .ok (some false) w := by kernel_rfl
theorem me_n10_addChild (b : Nat) (w : World) : (method 504 383 (.pointer (some ⟨b, 0, none⟩)) "pub-streamkeep/pub/natsserver/server/stree.addChild").run Tryz.prog w = .ok (355, .pointer (some ⟨b, 0, none⟩)) w := by kernel_rfl
theorem me_n10_findChild (b : Nat) (w : World) : (method 504 383 (.pointer (some ⟨b, 0, none⟩)) "pub-streamkeep/pub/natsserver/server/stree.findChild").run Tryz.prog w = .ok (359, .pointer (some ⟨b, 0, none⟩)) w := by kernel_rfl
theorem me_n10_grow (b : Nat) (w : World) : (method 504 383 (.pointer (some ⟨b, 0, none⟩)) "pub-streamkeep/pub/natsserver/server/stree.grow").run Tryz.prog w = .ok (360, .pointer (some ⟨b, 0, none⟩)) w := by kernel_rfl
theorem me_n10_isFull (b : Nat) (w : World) : (method 504 383 (.pointer (some ⟨b, 0, none⟩)) "pub-streamkeep/pub/natsserver/server/stree.isFull").run Tryz.prog w = .ok (361, .pointer (some ⟨b, 0, none⟩)) w := by kernel_rfl
theorem me_n10_isLeaf (b : Nat) (w : World) : (method 504 383 (.pointer (some ⟨b, 0, none⟩)) "pub-streamkeep/pub/natsserver/server/stree.isLeaf").run Tryz.prog w = .ok (342, .pointer (some ⟨b, 10, none⟩)) w := by kernel_rfl
theorem me_n10_base (b : Nat) (w : World) : (method 504 383 (.pointer (some ⟨b, 0, none⟩)) "pub-streamkeep/pub/natsserver/server/stree.base").run Tryz.prog w = .ok (341, .pointer (some ⟨b, 10, none⟩)) w := by kernel_rfl
theorem me_n10_setPrefix (b : Nat) (w : World) : (method 504 383 (.pointer (some ⟨b, 0, none⟩)) "pub-streamkeep/pub/natsserver/server/stree.setPrefix").run Tryz.prog w = .ok (268, .pointer (some ⟨b, 10, none⟩)) w := by kernel_rfl
theorem na_n10_addChild (b : Nat) (w : World) : (nilAhead 504 383 (.pointer (some ⟨b, 0, none⟩)) "pub-streamkeep/pub/natsserver/server/stree.addChild").run Tryz.prog w = .ok (some false) w := by kernel_rfl
theorem na_n10_findChild (b : Nat) (w : World) : (nilAhead 504 383 (.pointer (some ⟨b, 0, none⟩)) "pub-streamkeep/pub/natsserver/server/stree.findChild").run Tryz.prog w = .ok (some false) w := by kernel_rfl
theorem na_n10_setPrefix (b : Nat) (w : World) : (nilAhead 504 383 (.pointer (some ⟨b, 0, none⟩)) "pub-streamkeep/pub/natsserver/server/stree.setPrefix").run Tryz.prog w = .ok (some false) w := by kernel_rfl
theorem me_n16_addChild (b : Nat) (w : World) : (method 504 389 (.pointer (some ⟨b, 0, none⟩)) "pub-streamkeep/pub/natsserver/server/stree.addChild").run Tryz.prog w = .ok (365, .pointer (some ⟨b, 0, none⟩)) w := by kernel_rfl
theorem me_n16_findChild (b : Nat) (w : World) : (method 504 389 (.pointer (some ⟨b, 0, none⟩)) "pub-streamkeep/pub/natsserver/server/stree.findChild").run Tryz.prog w = .ok (368, .pointer (some ⟨b, 0, none⟩)) w := by kernel_rfl
theorem me_n16_grow (b : Nat) (w : World) : (method 504 389 (.pointer (some ⟨b, 0, none⟩)) "pub-streamkeep/pub/natsserver/server/stree.grow").run Tryz.prog w = .ok (369, .pointer (some ⟨b, 0, none⟩)) w := by kernel_rfl
theorem me_n16_isFull (b : Nat) (w : World) : (method 504 389 (.pointer (some ⟨b, 0, none⟩)) "pub-streamkeep/pub/natsserver/server/stree.isFull").run Tryz.prog w = .ok (370, .pointer (some ⟨b, 0, none⟩)) w := by kernel_rfl
theorem me_n16_isLeaf (b : Nat) (w : World) : (method 504 389 (.pointer (some ⟨b, 0, none⟩)) "pub-streamkeep/pub/natsserver/server/stree.isLeaf").run Tryz.prog w = .ok (342, .pointer (some ⟨b, 16, none⟩)) w := by kernel_rfl
theorem me_n16_base (b : Nat) (w : World) : (method 504 389 (.pointer (some ⟨b, 0, none⟩)) "pub-streamkeep/pub/natsserver/server/stree.base").run Tryz.prog w = .ok (341, .pointer (some ⟨b, 16, none⟩)) w := by kernel_rfl
theorem me_n16_setPrefix (b : Nat) (w : World) : (method 504 389 (.pointer (some ⟨b, 0, none⟩)) "pub-streamkeep/pub/natsserver/server/stree.setPrefix").run Tryz.prog w = .ok (268, .pointer (some ⟨b, 16, none⟩)) w := by kernel_rfl
theorem na_n16_addChild (b : Nat) (w : World) : (nilAhead 504 389 (.pointer (some ⟨b, 0, none⟩)) "pub-streamkeep/pub/natsserver/server/stree.addChild").run Tryz.prog w = .ok (some false) w := by kernel_rfl
theorem na_n16_findChild (b : Nat) (w : World) : (nilAhead 504 389 (.pointer (some ⟨b, 0, none⟩)) "pub-streamkeep/pub/natsserver/server/stree.findChild").run Tryz.prog w = .ok (some false) w := by kernel_rfl
theorem na_n16_setPrefix (b : Nat) (w : World) : (nilAhead 504 389 (.pointer (some ⟨b, 0, none⟩)) "pub-streamkeep/pub/natsserver/server/stree.setPrefix").run Tryz.prog w = .ok (some false) w := by kernel_rfl
theorem me_n48_addChild (b : Nat) (w : World) : (method 504 394 (.pointer (some ⟨b, 0, none⟩)) "pub-streamkeep/pub/natsserver/server/stree.addChild").run Tryz.prog w = .ok (374, .pointer (some ⟨b, 0, none⟩)) w := by kernel_rfl
theorem me_n48_findChild (b : Nat) (w : World) : (method 504 394 (.pointer (some ⟨b, 0, none⟩)) "pub-streamkeep/pub/natsserver/server/stree.findChild").run Tryz.prog w = .ok (378, .pointer (some ⟨b, 0, none⟩)) w := by kernel_rfl
theorem me_n48_grow (b : Nat) (w : World) : (method 504 394 (.pointer (some ⟨b, 0, none⟩)) "pub-streamkeep/pub/natsserver/server/stree.grow").run Tryz.prog w = .ok (379, .pointer (some ⟨b, 0, none⟩)) w := by kernel_rfl
theorem me_n48_isFull (b : Nat) (w : World) : (method 504 394 (.pointer (some ⟨b, 0, none⟩)) "pub-streamkeep/pub/natsserver/server/stree.isFull").run Tryz.prog w = .ok (380, .pointer (some ⟨b, 0, none⟩)) w := by kernel_rfl
theorem me_n48_isLeaf (b : Nat) (w : World) : (method 504 394 (.pointer (some ⟨b, 0, none⟩)) "pub-streamkeep/pub/natsserver/server/stree.isLeaf").run Tryz.prog w = .ok (342, .pointer (some ⟨b, 48, none⟩)) w := by kernel_rfl
theorem me_n48_base (b : Nat) (w : World) : (method 504 394 (.pointer (some ⟨b, 0, none⟩)) "pub-streamkeep/pub/natsserver/server/stree.base").run Tryz.prog w = .ok (341, .pointer (some ⟨b, 48, none⟩)) w := by kernel_rfl
theorem me_n48_setPrefix (b : Nat) (w : World) : (method 504 394 (.pointer (some ⟨b, 0, none⟩)) "pub-streamkeep/pub/natsserver/server/stree.setPrefix").run Tryz.prog w = .ok (268, .pointer (some ⟨b, 48, none⟩)) w := by kernel_rfl
theorem na_n48_addChild (b : Nat) (w : World) : (nilAhead 504 394 (.pointer (some ⟨b, 0, none⟩)) "pub-streamkeep/pub/natsserver/server/stree.addChild").run Tryz.prog w = .ok (some false) w := by kernel_rfl
theorem na_n48_findChild (b : Nat) (w : World) : (nilAhead 504 394 (.pointer (some ⟨b, 0, none⟩)) "pub-streamkeep/pub/natsserver/server/stree.findChild").run Tryz.prog w = .ok (some false) w := by kernel_rfl
theorem na_n48_setPrefix (b : Nat) (w : World) : (nilAhead 504 394 (.pointer (some ⟨b, 0, none⟩)) "pub-streamkeep/pub/natsserver/server/stree.setPrefix").run Tryz.prog w = .ok (some false) w := by kernel_rfl
theorem me_isLeaf (k : NK) (b : Nat) (w : World) : (method 504 k.tp (.pointer (some ⟨b, 0, none⟩)) "pub-streamkeep/pub/natsserver/server/stree.isLeaf").run Tryz.prog w = .ok (342, .pointer (some ⟨b, k.cap, none⟩)) w := by
  cases k
  · exact me_n4_isLeaf b w
  · exact me_n10_isLeaf b w
  · exact me_n16_isLeaf b w
  · exact me_n48_isLeaf b w
theorem me_base (k : NK) (b : Nat) (w : World) : (method 504 k.tp (.pointer (some ⟨b, 0, none⟩)) "pub-streamkeep/pub/natsserver/server/stree.base").run Tryz.prog w = .ok (341, .pointer (some ⟨b, k.cap, none⟩)) w := by
  cases k
  · exact me_n4_base b w
  · exact me_n10_base b w
  · exact me_n16_base b w
  · exact me_n48_base b w
theorem me_setPrefix (k : NK) (b : Nat) (w : World) : (method 504 k.tp (.pointer (some ⟨b, 0, none⟩)) "pub-streamkeep/pub/natsserver/server/stree.setPrefix").run Tryz.prog w = .ok (268, .pointer (some ⟨b, k.cap, none⟩)) w := by
  cases k
  · exact me_n4_setPrefix b w
  · exact me_n10_setPrefix b w
  · exact me_n16_setPrefix b w
  · exact me_n48_setPrefix b w
theorem me_addChild (k : NK) (b : Nat) (w : World) : (method 504 k.tp (.pointer (some ⟨b, 0, none⟩)) "pub-streamkeep/pub/natsserver/server/stree.addChild").run Tryz.prog w = .ok (k.fAdd, .pointer (some ⟨b, 0, none⟩)) w := by
  cases k
  · exact me_n4_addChild b w
  · exact me_n10_addChild b w
  · exact me_n16_addChild b w
  · exact me_n48_addChild b w
theorem me_findChild (k : NK) (b : Nat) (w : World) : (method 504 k.tp (.pointer (some ⟨b, 0, none⟩)) "pub-streamkeep/pub/natsserver/server/stree.findChild").run Tryz.prog w = .ok (k.fFind, .pointer (some ⟨b, 0, none⟩)) w := by
  cases k
  · exact me_n4_findChild b w
  · exact me_n10_findChild b w
  · exact me_n16_findChild b w
  · exact me_n48_findChild b w
theorem me_isFull (k : NK) (b : Nat) (w : World) : (method 504 k.tp (.pointer (some ⟨b, 0, none⟩)) "pub-streamkeep/pub/natsserver/server/stree.isFull").run Tryz.prog w = .ok (k.fFull, .pointer (some ⟨b, 0, none⟩)) w := by
  cases k
  · exact me_n4_isFull b w
  · exact me_n10_isFull b w
  · exact me_n16_isFull b w
  · exact me_n48_isFull b w
theorem me_grow (k : NK) (b : Nat) (w : World) : (method 504 k.tp (.pointer (some ⟨b, 0, none⟩)) "pub-streamkeep/pub/natsserver/server/stree.grow").run Tryz.prog w = .ok (k.fGrow, .pointer (some ⟨b, 0, none⟩)) w := by
  cases k
  · exact me_n4_grow b w
  · exact me_n10_grow b w
  · exact me_n16_grow b w
  · exact me_n48_grow b w
theorem cf_n4_add (args : Array Value) (w : World) : (callFunc 238 args).run Tryz.prog w = .ok (.enter 238 args) w := by kernel_rfl
theorem cf_n10_add (args : Array Value) (w : World) : (callFunc 355 args).run Tryz.prog w = .ok (.enter 355 args) w := by kernel_rfl
theorem cf_n16_add (args : Array Value) (w : World) : (callFunc 365 args).run Tryz.prog w = .ok (.enter 365 args) w := by kernel_rfl
theorem cf_n48_add (args : Array Value) (w : World) : (callFunc 374 args).run Tryz.prog w = .ok (.enter 374 args) w := by kernel_rfl
theorem cf_add (k : NK) (args : Array Value) (w : World) : (callFunc k.fAdd args).run Tryz.prog w = .ok (.enter k.fAdd args) w := by
  cases k
  · exact cf_n4_add args w
  · exact cf_n10_add args w
  · exact cf_n16_add args w
  · exact cf_n48_add args w
theorem cf_n4_find (args : Array Value) (w : World) : (callFunc 349 args).run Tryz.prog w = .ok (.enter 349 args) w := by kernel_rfl
theorem cf_n10_find (args : Array Value) (w : World) : (callFunc 359 args).run Tryz.prog w = .ok (.enter 359 args) w := by kernel_rfl
theorem cf_n16_find (args : Array Value) (w : World) : (callFunc 368 args).run Tryz.prog w = .ok (.enter 368 args) w := by kernel_rfl
theorem cf_n48_find (args : Array Value) (w : World) : (callFunc 378 args).run Tryz.prog w = .ok (.enter 378 args) w := by kernel_rfl
theorem cf_find (k : NK) (args : Array Value) (w : World) : (callFunc k.fFind args).run Tryz.prog w = .ok (.enter k.fFind args) w := by
  cases k
  · exact cf_n4_find args w
  · exact cf_n10_find args w
  · exact cf_n16_find args w
  · exact cf_n48_find args w
theorem cf_n4_full (args : Array Value) (w : World) : (callFunc 351 args).run Tryz.prog w = .ok (.enter 351 args) w := by kernel_rfl
theorem cf_n10_full (args : Array Value) (w : World) : (callFunc 361 args).run Tryz.prog w = .ok (.enter 361 args) w := by kernel_rfl
theorem cf_n16_full (args : Array Value) (w : World) : (callFunc 370 args).run Tryz.prog w = .ok (.enter 370 args) w := by kernel_rfl
theorem cf_n48_full (args : Array Value) (w : World) : (callFunc 380 args).run Tryz.prog w = .ok (.enter 380 args) w := by kernel_rfl
theorem cf_full (k : NK) (args : Array Value) (w : World) : (callFunc k.fFull args).run Tryz.prog w = .ok (.enter k.fFull args) w := by
  cases k
  · exact cf_n4_full args w
  · exact cf_n10_full args w
  · exact cf_n16_full args w
  · exact cf_n48_full args w
theorem cf_n4_grow (args : Array Value) (w : World) : (callFunc 350 args).run Tryz.prog w = .ok (.enter 350 args) w := by kernel_rfl
theorem cf_n10_grow (args : Array Value) (w : World) : (callFunc 360 args).run Tryz.prog w = .ok (.enter 360 args) w := by kernel_rfl
theorem cf_n16_grow (args : Array Value) (w : World) : (callFunc 369 args).run Tryz.prog w = .ok (.enter 369 args) w := by kernel_rfl
theorem cf_n48_grow (args : Array Value) (w : World) : (callFunc 379 args).run Tryz.prog w = .ok (.enter 379 args) w := by kernel_rfl
theorem cf_grow (k : NK) (args : Array Value) (w : World) : (callFunc k.fGrow args).run Tryz.prog w = .ok (.enter k.fGrow args) w := by
  cases k
  · exact cf_n4_grow args w
  · exact cf_n10_grow args w
  · exact cf_n16_grow args w
  · exact cf_n48_grow args w
theorem na_addChild (k : NK) (b : Nat) (w : World) : (nilAhead 504 k.tp (.pointer (some ⟨b, 0, none⟩)) "pub-streamkeep/pub/natsserver/server/stree.addChild").run Tryz.prog w = .ok (some false) w := by
  cases k
  · exact na_n4_addChild b w
  · exact na_n10_addChild b w
  · exact na_n16_addChild b w
  · exact na_n48_addChild b w
theorem na_findChild (k : NK) (b : Nat) (w : World) : (nilAhead 504 k.tp (.pointer (some ⟨b, 0, none⟩)) "pub-streamkeep/pub/natsserver/server/stree.findChild").run Tryz.prog w = .ok (some false) w := by
  cases k
  · exact na_n4_findChild b w
  · exact na_n10_findChild b w
  · exact na_n16_findChild b w
  · exact na_n48_findChild b w
theorem na_setPrefix (k : NK) (b : Nat) (w : World) : (nilAhead 504 k.tp (.pointer (some ⟨b, 0, none⟩)) "pub-streamkeep/pub/natsserver/server/stree.setPrefix").run Tryz.prog w = .ok (some false) w := by
  cases k
  · exact na_n4_setPrefix b w
  · exact na_n10_setPrefix b w
  · exact na_n16_setPrefix b w
  · exact na_n48_setPrefix b w
end Go.Proofs.YtmblkpjnafgplaaGreatDoor
