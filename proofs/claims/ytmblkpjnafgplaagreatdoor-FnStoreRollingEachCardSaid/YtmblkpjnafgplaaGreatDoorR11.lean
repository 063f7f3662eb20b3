/- A block read and written whole. No walk here. A part of a block written. No walk here. -/
import Derived.Test.YtmblkpjnafgplaaGreatDoorR00
import Derived.Deep.MidRow
import Derived.Tactics
namespace Go.Proofs.YtmblkpjnafgplaaGreatDoor
open Go Go.RowKit
set_option linter.unusedVariables false
set_option linter.unusedSimpArgs false

theorem Keep.setCells {F : Nat → Prop} {a : World} {b : Nat} (hb : b < a.heap.size → F b) : ∀ (vs : List Value) (o : Nat) (w : World), Keep F a w → Keep F a (w.setCells b o vs)
  | [], _, _, h => h
  | v :: r, o, w, h => by
    rw [World.setCells]
    exact Keep.setCells hb r (o + 1) _ (h.setCell (p := ⟨b, o, none⟩) hb v)

theorem Blk.setCells_at {b : Nat} {t : TypeId} : ∀ (vs : List Value) (o : Nat) (w : World) (C : Array Value), Blk w b t C → ∃ C', Blk (w.setCells b o vs) b t C' ∧ C'.size = C.size ∧ ∀ j, C'[j]? = if o ≤ j ∧ j < o + vs.length ∧ j < C.size then vs[j - o]? else C[j]?
  | [], o, w, C, h => ⟨C, h, rfl, fun j => by rw [if_neg]; simp; omega⟩
  | v :: r, o, w, C, h => by
    rw [World.setCells]
    obtain ⟨C', h1, h2, h3⟩ := Blk.setCells_at r (o + 1) _ _ (h.set_ o v)
    refine ⟨C', h1, h2.trans (by simp), fun j => ?_⟩
    rw [h3 j]
    simp only [Array.size_setIfInBounds, List.length_cons]
    by_cases e : j = o
    · subst e
      rw [if_neg (by omega)]
      by_cases hj : j < C.size
      · rw [if_pos ⟨Nat.le_refl _, by omega, hj⟩]; simp [hj]
      · rw [if_neg (by omega)]; simp [hj]
    · by_cases hc : o + 1 ≤ j ∧ j < o + 1 + r.length ∧ j < C.size
      · rw [if_pos hc, if_pos (by omega)]
        have : j - o = (j - (o + 1)) + 1 := by omega
        rw [this, List.getElem?_cons_succ]
      · rw [if_neg hc, if_neg (by omega)]
        simp [Array.getElem?_setIfInBounds, Ne.symm e]

theorem Blk.setCells_whole {w : World} {b : Nat} {t : TypeId} {C : Array Value} (h : Blk w b t C) (vs : List Value) (hz : vs.length = C.size) : Blk (w.setCells b 0 vs) b t vs.toArray := by
  obtain ⟨C', h1, h2, h3⟩ := Blk.setCells_at vs 0 w C h
  have e : C' = vs.toArray := by
    apply Array.ext_getElem?
    intro j
    rw [h3 j]
    by_cases hj : j < C.size
    · rw [if_pos ⟨Nat.zero_le _, by omega, hj⟩]; simp
    · rw [if_neg (by omega), Array.getElem?_eq_none (by omega)]
      simp; omega
  rw [← e]; exact h1

theorem Blk.rangeAt {w : World} {b : Nat} {t : TypeId} {C : Array Value} (h : Blk w b t C) : w.rangeAt b 0 C.toList := fun j v hv => by
  rw [Nat.zero_add, h.cell]; simpa using hv
theorem Blk.rangeAt_part {w : World} {b : Nat} {t : TypeId} {C : Array Value} (h : Blk w b t C) (o : Nat) (cs : List Value) (hc : ∀ j v, cs[j]? = some v → C[o + j]? = some v) : w.rangeAt b o cs := fun j v hv => by
  rw [h.cell]; exact hc j v hv
theorem Blk.there {w : World} {b : Nat} {t : TypeId} {C : Array Value} (h : Blk w b t C) : w.there b 0 C.size := fun j hj => by
  rw [Nat.zero_add]
  exact ⟨by rw [h.cell, Array.getElem?_eq_getElem hj]; rfl, h.frozen j⟩

/-- a result that lies in memory, read -/
theorem results_cell {fn : Func} {t : Tmp} {ty : TypeId} (h : fn.results = #[.cell t ty]) (tmps : Array Value) (P : Program) (w : World) (b o : Nat) (ht : tmps.getD t undef = .pointer (some ⟨b, o, none⟩)) (cs : List Value) (d : TypeDesc)
    (hr : w.rangeAt b o cs) (hu : P.underlying ty = some d) (hd : d.isRow = true) (hi : (P.info? ty).map (·.size) = some cs.length) : (results fn tmps).run P w = .ok (.agg cs.toArray) w := by
  have ht' : tmps[t]?.getD undef = .pointer (some ⟨b, o, none⟩) := by simpa using ht
  unfold results
  rw [h]
  simp [ht', asAddr, run_loadVar_mid w b o ty cs d hr hu hd hi]

theorem results_cell3 {fn : Func} {t u v : Tmp} {ty : TypeId} (h : fn.results = #[.cell t ty, .tmp u, .tmp v]) (tmps : Array Value) (P : Program) (w : World) (b o : Nat) (ht : tmps.getD t undef = .pointer (some ⟨b, o, none⟩)) (cs : List Value) (d : TypeDesc)
    (hr : w.rangeAt b o cs) (hu : P.underlying ty = some d) (hd : d.isRow = true) (hi : (P.info? ty).map (·.size) = some cs.length) : (results fn tmps).run P w = .ok (.tuple #[.agg cs.toArray, tmps.getD u undef, tmps.getD v undef]) w := by
  have ht' : tmps[t]?.getD undef = .pointer (some ⟨b, o, none⟩) := by simpa using ht
  unfold results
  rw [h]
  simp [ht', asAddr, run_loadVar_mid w b o ty cs d hr hu hd hi]

end Go.Proofs.YtmblkpjnafgplaaGreatDoor

namespace Go.Proofs.YtmblkpjnafgplaaGreatDoor
open Go Go.RowKit
set_option linter.unusedVariables false
set_option linter.unusedSimpArgs false

theorem Blk.setCells_mid {w : World} {b : Nat} {t : TypeId} {C : Array Value} (h : Blk w b t C) (o : Nat) (vs : List Value) (hz : o + vs.length ≤ C.size) : Blk (w.setCells b o vs) b t (C.toList.take o ++ (vs ++ C.toList.drop (o + vs.length))).toArray := by
  obtain ⟨C', h1, h2, h3⟩ := Blk.setCells_at vs o w C h
  have e : C' = (C.toList.take o ++ (vs ++ C.toList.drop (o + vs.length))).toArray := by
    apply Array.ext_getElem?
    intro j
    rw [h3 j, ← Array.getElem?_toList (xs := C)]
    simp only [List.getElem?_toArray]
    have hl : (C.toList.take o).length = o := by rw [List.length_take, Array.length_toList]; omega
    by_cases h1 : j < o
    · rw [if_neg (by omega), List.getElem?_append_left (by omega), List.getElem?_take_of_lt h1]
    · rw [List.getElem?_append_right (by omega), hl]
      by_cases h2 : j < o + vs.length
      · rw [if_pos ⟨by omega, h2, by omega⟩, List.getElem?_append_left (by omega)]
      · rw [if_neg (by omega), List.getElem?_append_right (by omega), List.getElem?_drop]
        congr 1; omega
  rw [← e]; exact h1

end Go.Proofs.YtmblkpjnafgplaaGreatDoor
