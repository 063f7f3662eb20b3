/- The set of numbers: put in. The set of numbers: taken out. updateFirstSeq: the first number, found anew. removeSeqPerSubject: a subject's state behind the taking out of its first. updateFirstSeq at a store that a message is being taken out of. -/
import Derived.Test.YtmblkpjnafgplaaGreatDoorRRc
import Derived.Test.YtmblkpjnafgplaaGreatDoorR15
import Derived.Deep.RegionLaw
import Derived.Test.YtmblkpjnafgplaaGreatDoorR16
import Derived.Test.YtmblkpjnafgplaaGreatDoorR13
namespace Go.Proofs.YtmblkpjnafgplaaGreatDoor
open Go Go.RowKit
set_option maxRecDepth 100000
set_option linter.unusedVariables false
set_option linter.unusedSimpArgs false

set_option maxHeartbeats 2000000 in
theorem nodeNew_any {w : World} {ms k : Nat} {C : Array Value} {d2 : Int} {x : Bool} (hb : Blk w ms 87 C) (h29 : C[29]? = some (.int .i64 d2)) (h30 : C[30]? = some (.bool x)) (hk : k < 64) :
    Calls Tryz.prog 133 #[.pointer none, .int .u64 (k : Int), .pointer (some ⟨ms, 30, none⟩), .pointer (some ⟨ms, 29, none⟩)] w fun e w' => ∃ nb d2', e = .returned (.pointer (some ⟨nb, 0, none⟩)) ∧ w.heap.size ≤ nb ∧ Blk w' nb 204 (dC (2 ^ k)) ∧
      Blk w' ms 87 ((C.setIfInBounds 30 (.bool true)).setIfInBounds 29 (.int .i64 d2')) ∧ Keep (fun k => k = ms) w w' := by
  have hms := hb.lt
  have q1 : (k : Int) / 2048 = 0 := by omega
  have hba := hb.alloc (.cells (dC 0) 204)
  have hnb : Blk (w.alloc (.cells (dC 0) 204)) w.heap.size 204 (dC 0) := Blk.new w 204 _
  have hka := (Keep.refl NoB w).alloc (.cells (dC 0) 204)
  have hset := set_any (k := k) (g := ms) (o := 30) (x := x) hnb (by decide) hk (by simp) (by rw [hba.cell]; exact h30) (hba.frozen 30) (by omega)
  have HS := Lib.hid (And.intro hset (And.intro hba hka))
  clear hset hba hka hnb hb
  go_enter Tryz.func133, Tryz.ntmps133
  go_wp2_with fail
  refine HS.out.1.mono ?_
  rintro e w1 ⟨rfl, w2, hb2, hk2, rfl⟩
  rw [Nat.zero_or] at hb2
  have hm2 := (hk2.blk HS.out.2.1 (fun e => by omega)).set_ 30 (.bool true)
  have hn2 := (keep1 w2 ms 30 (.bool true)).blk hb2 (fun e => by omega)
  have hk3 : Keep (fun k => k = ms) w (w2.setCell ⟨ms, 30, none⟩ (.bool true)) := ((HS.out.2.2.own hk2 (fun k e => by omega)).mono (G := fun k => k = ms) (fun _ _ h => h.elim)).put rfl 30 (.bool true)
  generalize w2.setCell ⟨ms, 30, none⟩ (.bool true) = w3 at hm2 hn2 hk3 ⊢
  have c29 : w3.cell? ⟨ms, 29, none⟩ = some (.int .i64 d2) := by rw [hm2.cell]; simpa using h29
  have f29 := hm2.frozen 29
  have H3 := Lib.hid (And.intro hm2 (And.intro hn2 hk3))
  clear hm2 hn2 hk3 hb2 hk2 HS
  go_wp2_with fail
  go_ret
  exact ⟨_, _, rfl, Nat.le_refl _, (keep1 w3 ms 29 _).blk H3.out.2.1 (fun e => by omega), H3.out.1.set_ 29 _, H3.out.2.2.put rfl 29 _⟩

/-- where the set lies in the store's head -/
theorem Hd.size (h : Hd) : h.cells.size = 33 := rfl

set_option maxHeartbeats 4000000 in
theorem insert_any {w : World} {ms k : Nat} {h : Hd} {X : Nat → Prop} (hb : Blk w ms 87 h.cells) (hd : DAt w h.d0 X) (h3 : h.d3 = false) (h1 : 0 ≤ h.d1 ∧ h.d1 ≤ 100) (hk : k < 64) (hX : ¬ X k) (hne : ∀ nb, h.d0 = .pointer (some ⟨nb, 0, none⟩) → nb ≠ ms) :
    Calls Tryz.prog 67 #[.pointer (some ⟨ms, 27, none⟩), .int .u64 (k : Int)] w fun e w' => e = .returned (.tuple #[]) ∧
      ∃ nb d2', Blk w' ms 87 ({ h with d0 := .pointer (some ⟨nb, 0, none⟩), d1 := h.d1 + 1, d2 := d2' } : Hd).cells ∧ DAt w' (.pointer (some ⟨nb, 0, none⟩)) (fun x => X x ∨ x = k) ∧
        (h.d0 = .pointer (some ⟨nb, 0, none⟩) ∨ w.heap.size ≤ nb) ∧ Keep (fun x => x = ms ∨ h.d0 = .pointer (some ⟨x, 0, none⟩)) w w' := by
  have k0 : (0 : Int) ≤ (k : Int) := Int.natCast_nonneg _
  have k1 : (k : Int) < 64 := by omega
  have c28 : w.cell? ⟨ms, 28, none⟩ = some (.int .i64 h.d1) := by rw [hb.cell]; rfl
  have hms := hb.lt
  rcases hd with ⟨e0, hno⟩ | ⟨nb, B, e0, hnb, hB, hX2⟩
  · have c27 : w.cell? ⟨ms, 27, none⟩ = some (.pointer none) := by rw [hb.cell, ← e0]; rfl
    have hb' := hb.drew
    have hnew := nodeNew_any (w := w.drew) (d2 := h.d2) (x := h.d3) (k := k) hb' rfl rfl hk
    have HN := Lib.hid (And.intro hnew (And.intro hb hno))
    clear hnew hb hb' hno
    go_enter Tryz.func67, Tryz.ntmps67
    go_wp2_with fail
    go_loop [4] (fun v4 => v4 = .pointer none) (fun _ => 0)
    case atStart => rfl
    case round =>
      subst hrel
      go_wp2_with fail
      go_region_law (first | (go_simp; go_at_call 133; refine HN.out.1.mono ?_; rintro e w1 ⟨nb, d2', rfl, hge, hn1, hm1, hk1⟩; have f27 := hm1.frozen 27; have z27 : w1.cell? ⟨ms, 27, none⟩ = some (.pointer none) := (by rw [hm1.cell, ← e0]; rfl); have HW := Lib.hid (And.intro hn1 (And.intro hm1 hk1)); clear hn1 hm1 hk1))
      all_goals
        have hm2 := HW.out.2.1.set_ 27 (.pointer (some ⟨nb, 0, none⟩))
        have hn2 := (keep1 w1 ms 27 (.pointer (some ⟨nb, 0, none⟩))).blk HW.out.1 (fun e => by have := hge; simp only [World.drew] at this; omega)
        have hk2 := HW.out.2.2.put rfl 27 (.pointer (some ⟨nb, 0, none⟩))
        generalize w1.setCell ⟨ms, 27, none⟩ (.pointer (some ⟨nb, 0, none⟩)) = w2 at hm2 hn2 hk2 ⊢
        have y30 : w2.cell? ⟨ms, 30, none⟩ = some (.bool true) := by rw [hm2.cell]; rfl
        have y28 : w2.cell? ⟨ms, 28, none⟩ = some (.int .i64 h.d1) := by rw [hm2.cell]; rfl
        have f30 := hm2.frozen 30
        have f28 := hm2.frozen 28
        have H2 := Lib.hid (And.intro hm2 (And.intro hn2 hk2))
        clear hm2 hn2 hk2 z27 f27 c27 c28
        go_wp2_with fail
        go_end0
        have hkk := (H2.out.2.2.put rfl 30 (.bool false)).put rfl 28 (.int .i64 (h.d1 + 1))
        refine ⟨rfl, nb, d2', ?_, .inr ⟨nb, 2 ^ k, rfl, (((keep1 w2 ms 30 _).put rfl 28 _)).blk H2.out.2.1 (fun e => by have := hge; simp only [World.drew] at this; omega), pow_lt hk, fun x => ?_⟩, .inr hge, (show Keep (fun k => k = ms) w _ from ⟨hkk.os, hkk.tape, hkk.output, hkk.size, hkk.block⟩).mono (fun _ _ e => Or.inl e)⟩
        · have hbb := (H2.out.1.set_ 30 (.bool false)).set_ 28 (.int .i64 (h.d1 + 1))
          have e : ({ h with d0 := .pointer (some ⟨nb, 0, none⟩), d1 := h.d1 + 1, d2 := d2' } : Hd).cells = ({ h with d0 := .pointer (some ⟨nb, 0, none⟩), d1 := h.d1 + 1, d2 := d2', d3 := false } : Hd).cells := by simp only [Hd.cells, h3]
          rw [e]
          exact hbb
        · rw [Nat.testBit_two_pow, decide_eq_true_eq]
          constructor
          · intro hh; exact .inr hh.symm
          · rintro (hh | hh)
            · exact absurd hh (HN.out.2.2 x)
            · exact hh.symm
  · have c27 : w.cell? ⟨ms, 27, none⟩ = some (.pointer (some ⟨nb, 0, none⟩)) := by rw [hb.cell, ← e0]; rfl
    have hnm := hne nb e0
    have x0 : w.cell? ⟨nb, 0, none⟩ = some (.int .u64 0) := by rw [hnb.cell]; rfl
    have hbit : B.testBit k = false := by
      cases hq : B.testBit k with
      | false => rfl
      | true => exact absurd ((hX2 k).1 hq) hX
    have hset := set_any (k := k) (g := ms) (o := 30) (x := h.d3) hnb hB hk hbit (by rw [hb.cell]; rfl) (hb.frozen 30) (fun e => hnm e.symm)
    have HN := Lib.hid (And.intro hset (And.intro hb hX2))
    clear hset hb hnb hX2
    go_enter Tryz.func67, Tryz.ntmps67
    go_wp2_with fail
    go_loop [4] (fun v4 => v4 = .pointer (some ⟨nb, 0, none⟩)) (fun _ => 0)
    case atStart => rfl
    case round =>
      subst hrel
      go_wp2_with fail
      refine HN.out.1.mono ?_
      rintro e w1 ⟨rfl, w2, hn2, hk2, rfl⟩
      have hm2 := (hk2.blk HN.out.2.1 (fun e => hnm e.symm)).set_ 30 (.bool true)
      have hn3 := (keep1 w2 ms 30 (.bool true)).blk hn2 hnm
      have hk3 : Keep (fun x => x = ms ∨ h.d0 = .pointer (some ⟨x, 0, none⟩)) w (w2.setCell ⟨ms, 30, none⟩ (.bool true)) := (hk2.mono (G := fun x => x = ms ∨ h.d0 = .pointer (some ⟨x, 0, none⟩)) (fun x _ e => .inr (by rw [e0, e]))).put (.inl rfl) 30 (.bool true)
      generalize w2.setCell ⟨ms, 30, none⟩ (.bool true) = w3 at hm2 hn3 hk3 ⊢
      have y30 : w3.cell? ⟨ms, 30, none⟩ = some (.bool true) := by rw [hm2.cell]; rfl
      have y28 : w3.cell? ⟨ms, 28, none⟩ = some (.int .i64 h.d1) := by rw [hm2.cell]; rfl
      have f30 := hm2.frozen 30
      have f28 := hm2.frozen 28
      have H2 := Lib.hid (And.intro hm2 (And.intro hn3 hk3))
      clear hm2 hn3 hk3 c27 c28 hn2 hk2
      go_wp2_with fail
      refine bodyPost_ret (results_none rfl _ _ _) rfl ?_
      have hkk := (H2.out.2.2.put (.inl rfl) 30 (.bool false)).put (.inl rfl) 28 (.int .i64 (h.d1 + 1))
      refine ⟨rfl, nb, h.d2, ?_, .inr ⟨nb, B ||| 2 ^ k, rfl, (((keep1 w3 ms 30 _).put rfl 28 _)).blk H2.out.2.1 hnm, Nat.or_lt_two_pow (n := 64) hB (pow_lt hk), fun x => ?_⟩, .inl e0, hkk⟩
      · have hbb := (H2.out.1.set_ 30 (.bool false)).set_ 28 (.int .i64 (h.d1 + 1))
        have e : ({ h with d0 := .pointer (some ⟨nb, 0, none⟩), d1 := h.d1 + 1, d2 := h.d2 } : Hd).cells = ({ h with d0 := h.d0, d1 := h.d1 + 1, d3 := false } : Hd).cells := by simp only [Hd.cells, h3, e0]
        rw [e]
        exact hbb
      · rw [Nat.testBit_or, Nat.testBit_two_pow, Bool.or_eq_true, decide_eq_true_eq, HN.out.2.2 x]
        constructor
        · rintro (hh | hh)
          · exact .inl hh
          · exact .inr hh.symm
        · rintro (hh | hh)
          · exact .inl hh
          · exact .inr hh.symm

end Go.Proofs.YtmblkpjnafgplaaGreatDoor

namespace Go.Proofs.YtmblkpjnafgplaaGreatDoor
open Go Go.RowKit
set_option maxRecDepth 100000
set_option linter.unusedVariables false
set_option linter.unusedSimpArgs false

theorem bal_nil (w : World) : Calls Tryz.prog 190 #[.pointer none] w fun e w' => e = .returned (.int .i64 0) ∧ w' = w := by
  go_enter Tryz.func190, Tryz.ntmps190
  go_wp2
  go_ret
  exact ⟨rfl, rfl⟩

theorem wrap_ne (x : Int) : ¬ wrap64 (x - 1) = x := by unfold wrap64; omega

theorem empty_any {w : World} {ms : Nat} {C : Array Value} {v27 v28 v29 : Value} (hb : Blk w ms 87 C) (h27 : C[27]? = some v27) (h28 : C[28]? = some v28) (h29 : C[29]? = some v29) : Calls Tryz.prog 134 #[.pointer (some ⟨ms, 27, none⟩)] w fun e w' => e = .returned (.tuple #[]) ∧ w' = ((w.setCell ⟨ms, 27, none⟩ (.pointer none)).setCell ⟨ms, 28, none⟩ (.int .i64 0)).setCell ⟨ms, 29, none⟩ (.int .i64 0) := by
  have c27 : w.cell? ⟨ms, 27, none⟩ = some v27 := by rw [hb.cell]; exact h27
  have c28 : w.cell? ⟨ms, 28, none⟩ = some v28 := by rw [hb.cell]; exact h28
  have c29 : w.cell? ⟨ms, 29, none⟩ = some v29 := by rw [hb.cell]; exact h29
  have f27 := hb.frozen 27
  have f28 := hb.frozen 28
  have f29 := hb.frozen 29
  go_enter Tryz.func134, Tryz.ntmps134
  go_wp2_with fail
  go_end0
  exact ⟨rfl, rfl⟩

theorem arr_same {C : Array Value} {i : Nat} {v : Value} (h : C[i]? = some v) : C.setIfInBounds i v = C := by
  apply Array.ext_getElem?
  intro j
  rw [Array.getElem?_setIfInBounds]
  by_cases e : i = j
  · subst e
    rw [if_pos rfl, h, if_pos (Array.getElem?_eq_some_iff.1 h).1]
  · rw [if_neg e]

set_option maxHeartbeats 4000000 in
theorem nodeDel_any {w : World} {ms nb B k : Nat} {C : Array Value} {d2 : Int} {x : Bool} (hb : Blk w ms 87 C) (h29 : C[29]? = some (.int .i64 d2)) (h30 : C[30]? = some (.bool x)) (hn : Blk w nb 204 (dC B)) (hB : B < 18446744073709551616) (hk : k < 64) (hbit : B.testBit k = true) (hne : ms ≠ nb) :
    Calls Tryz.prog 140 #[.pointer (some ⟨nb, 0, none⟩), .int .u64 (k : Int), .pointer (some ⟨ms, 30, none⟩), .pointer (some ⟨ms, 29, none⟩)] w fun e w' => ∃ (v : Option Addr) (d2' : Int), e = .returned (.pointer v) ∧ ((B ^^^ 2 ^ k = 0 ∧ v = none) ∨ (B ^^^ 2 ^ k ≠ 0 ∧ v = some ⟨nb, 0, none⟩)) ∧
      Blk w' nb 204 (dC (B ^^^ 2 ^ k)) ∧ Blk w' ms 87 ((C.setIfInBounds 30 (.bool true)).setIfInBounds 29 (.int .i64 d2')) ∧ Keep (fun k => k = ms ∨ k = nb) w w' := by
  have k0 : (0 : Int) ≤ (k : Int) := Int.natCast_nonneg _
  have k1 : (k : Int) < 64 := by omega
  have x0 : w.cell? ⟨nb, 0, none⟩ = some (.int .u64 0) := by rw [hn.cell]; rfl
  have c29 : w.cell? ⟨ms, 29, none⟩ = some (.int .i64 d2) := by rw [hb.cell]; exact h29
  have hcl := clear_any (k := k) (g := ms) (o := 30) (x := x) hn hB hk hbit (by rw [hb.cell]; exact h30) (hb.frozen 30) hne
  have hwn := wrap_ne d2
  have HC := Lib.hid (And.intro hcl (And.intro hb h29))
  clear hcl hb hn h29 h30
  generalize hB' : B ^^^ 2 ^ k = B' at *
  clear hB'
  have step : ∀ w2, Blk w2 nb 204 (dC B') → Keep (fun x => x = nb) w w2 → ∃ w3, w3 = w2.setCell ⟨ms, 30, none⟩ (.bool true) ∧ Blk w3 nb 204 (dC B') ∧ Blk w3 ms 87 (C.setIfInBounds 30 (.bool true)) ∧ Keep (fun k => k = ms ∨ k = nb) w w3 := fun w2 h1 h2 =>
    ⟨_, rfl, (keep1 w2 ms 30 _).blk h1 (fun e => hne e.symm), (h2.blk HC.out.2.1 hne).set_ 30 _, (h2.mono (G := fun k => k = ms ∨ k = nb) (fun _ _ e => .inr e)).put (.inl rfl) 30 _⟩
  by_cases hz : B' = 0
  · go_enter Tryz.func140, Tryz.ntmps140
    go_wp2_with fail
    refine HC.out.1.mono ?_
    rintro e w1 ⟨rfl, w2, hn2, hk2, rfl⟩
    rw [decide_eq_true hz]
    obtain ⟨w3, e3, hn3, hm3, hk3⟩ := step w2 hn2 hk2
    rw [← e3]
    have y29 : w3.cell? ⟨ms, 29, none⟩ = some (.int .i64 d2) := by rw [hm3.cell]; simpa using HC.out.2.2
    have f29 := hm3.frozen 29
    have y33 : w3.cell? ⟨nb, 33, none⟩ = some (.pointer none) := by rw [hn3.cell]; rfl
    have y34 : w3.cell? ⟨nb, 34, none⟩ = some (.pointer none) := by rw [hn3.cell]; rfl
    have hnn : ∀ j, (⟨ms, 29, none⟩ : Addr) ≠ ⟨nb, j, none⟩ := fun j e => hne (by injection e)
    have H3 := Lib.hid (And.intro hn3 (And.intro hm3 hk3))
    clear hn3 hm3 hk3 e3 hn2 hk2 step
    go_wp2_with fail
    refine (bal_nil _).mono ?_
    rintro e w4 ⟨rfl, rfl⟩
    go_wp2_with fail
    go_ret
    exact ⟨_, _, rfl, .inl ⟨hz, rfl⟩, (keep1 w3 ms 29 _).blk H3.out.1 (fun e => hne e.symm), H3.out.2.1.set_ 29 _, H3.out.2.2.put (.inl rfl) 29 _⟩
  · go_enter Tryz.func140, Tryz.ntmps140
    go_wp2_with fail
    refine HC.out.1.mono ?_
    rintro e w1 ⟨rfl, w2, hn2, hk2, rfl⟩
    rw [decide_eq_false hz]
    obtain ⟨w3, e3, hn3, hm3, hk3⟩ := step w2 hn2 hk2
    rw [← e3]
    have y29 : w3.cell? ⟨ms, 29, none⟩ = some (.int .i64 d2) := by rw [hm3.cell]; simpa using HC.out.2.2
    have H3 := Lib.hid (And.intro hn3 (And.intro hm3 hk3))
    clear hn3 hm3 hk3 e3 hn2 hk2 step
    go_wp2_with fail
    go_ret
    refine ⟨_, d2, rfl, .inr ⟨hz, rfl⟩, H3.out.1, ?_, H3.out.2.2⟩
    rw [arr_same (by simpa using HC.out.2.2)]
    exact H3.out.2.1

set_option maxHeartbeats 4000000 in
theorem delete_any {w : World} {ms k : Nat} {h : Hd} {X : Nat → Prop} (hb : Blk w ms 87 h.cells) (hd : DAt w h.d0 X) (h3 : h.d3 = false) (h1 : 1 ≤ h.d1 ∧ h.d1 ≤ 100) (hk : k < 64) (hX : X k) (hone : h.d1 = 1 → ∀ x, X x → x = k) (hne : ∀ nb, h.d0 = .pointer (some ⟨nb, 0, none⟩) → nb ≠ ms) :
    Calls Tryz.prog 77 #[.pointer (some ⟨ms, 27, none⟩), .int .u64 (k : Int)] w fun e w' => e = .returned (.bool true) ∧
      ∃ d0' d2', Blk w' ms 87 ({ h with d0 := d0', d1 := h.d1 - 1, d2 := d2' } : Hd).cells ∧ DAt w' d0' (fun x => X x ∧ x ≠ k) ∧
        (d0' = h.d0 ∨ d0' = .pointer none) ∧ Keep (fun x => x = ms ∨ h.d0 = .pointer (some ⟨x, 0, none⟩)) w w' := by
  have k0 : (0 : Int) ≤ (k : Int) := Int.natCast_nonneg _
  have k1 : (k : Int) < 64 := by omega
  rcases hd with ⟨e0, hno⟩ | ⟨nb, B, e0, hnb, hB, hX2⟩
  · exact absurd hX (hno k)
  · have c27 : w.cell? ⟨ms, 27, none⟩ = some (.pointer (some ⟨nb, 0, none⟩)) := by rw [hb.cell, ← e0]; rfl
    have hnm := hne nb e0
    have hbit : B.testBit k = true := (hX2 k).2 hX
    have hdel := nodeDel_any (w := w.drew) (d2 := h.d2) (x := h.d3) (k := k) hb.drew rfl rfl hnb.drew hB hk hbit (fun e => hnm e.symm)
    have HN := Lib.hid (And.intro hdel (And.intro hX2 hone))
    clear hdel hb hnb hX2 hone
    go_enter Tryz.func77, Tryz.ntmps77
    go_wp2_with fail
    go_region_law (first | (go_simp; go_at_call 140; refine HN.out.1.mono ?_; rintro e w1 ⟨v, d2', rfl, hv, hn1, hm1, hk1⟩; have f27 := hm1.frozen 27; have z27 : w1.cell? ⟨ms, 27, none⟩ = some (.pointer (some ⟨nb, 0, none⟩)) := (by rw [hm1.cell, ← e0]; rfl); have HW := Lib.hid (And.intro hn1 (And.intro hm1 (And.intro hk1 hv))); clear hn1 hm1 hk1 hv))
    all_goals
      have hm2 : Blk (w1.setCell ⟨ms, 27, none⟩ (.pointer v)) ms 87 ({ h with d0 := .pointer v, d2 := d2', d3 := true } : Hd).cells := HW.out.2.1.set_ 27 (.pointer v)
      have hn2 := (keep1 w1 ms 27 (.pointer v)).blk HW.out.1 hnm
      have hk2 := HW.out.2.2.1.put (.inl rfl) 27 (.pointer v)
      have hv := HW.out.2.2.2
      generalize w1.setCell ⟨ms, 27, none⟩ (.pointer v) = w2 at hm2 hn2 hk2 ⊢
      have y30 : w2.cell? ⟨ms, 30, none⟩ = some (.bool true) := by rw [hm2.cell]; rfl
      have y28 : w2.cell? ⟨ms, 28, none⟩ = some (.int .i64 h.d1) := by rw [hm2.cell]; rfl
      have f30 := hm2.frozen 30
      have f28 := hm2.frozen 28
      have f27' := hm2.frozen 27
      have f29 := hm2.frozen 29
      have H2 := Lib.hid (And.intro hm2 (And.intro hn2 (show Keep (fun k => k = ms ∨ k = nb) w w2 from ⟨hk2.os, hk2.tape, hk2.output, hk2.size, hk2.block⟩)))
      clear hm2 hn2 hk2 z27 f27 c27
      have hbits : ∀ x, (B ^^^ 2 ^ k).testBit x = true ↔ X x ∧ x ≠ k := fun x => by
        rw [Nat.testBit_xor, Nat.testBit_two_pow]
        by_cases hkx : k = x
        · subst hkx
          rw [hbit]; simp
        · have := HN.out.2.1 x
          simp only [hkx, decide_false, Bool.xor_false]
          rw [this]
          exact ⟨fun hh => ⟨hh, fun e => hkx e.symm⟩, fun hh => hh.1⟩
      have HBI := Lib.hid hbits
      clear hbits
      have hkk := (H2.out.2.2.put (.inl rfl) 30 (.bool false)).put (.inl rfl) 28 (.int .i64 (h.d1 - 1))
      have hbb : Blk ((w2.setCell ⟨ms, 30, none⟩ (.bool false)).setCell ⟨ms, 28, none⟩ (.int .i64 (h.d1 - 1))) ms 87 ({ h with d0 := .pointer v, d1 := h.d1 - 1, d2 := d2', d3 := false } : Hd).cells := (H2.out.1.set_ 30 (.bool false)).set_ 28 (.int .i64 (h.d1 - 1))
      have hnn := ((keep1 w2 ms 30 (.bool false)).put rfl 28 (.int .i64 (h.d1 - 1))).blk H2.out.2.1 hnm
      have HK := Lib.hid (And.intro hkk (And.intro hbb hnn))
      clear hkk hbb hnn
      by_cases hd1 : h.d1 = 1
      · have hz1 : h.d1 - 1 = 0 := by omega
        rw [hz1] at HK
        go_wp2_with fail
        refine (empty_any HK.out.2.1 rfl rfl rfl).mono ?_
        rintro e w5 ⟨rfl, rfl⟩
        go_wp2_with fail
        go_ret
        refine ⟨rfl, .pointer none, 0, ?_, .inl ⟨rfl, fun x hx => hx.2 (HN.out.2.2 hd1 x hx.1)⟩, .inr rfl, (((HK.out.1.put (.inl rfl) 27 _).put (.inl rfl) 28 _).put (.inl rfl) 29 _).mono (fun x _ e => e.imp id (fun e => by rw [e0, e]))⟩
        have hb5 := ((HK.out.2.1.set_ 27 (.pointer none)).set_ 28 (.int .i64 0)).set_ 29 (.int .i64 0)
        have e : ({ h with d0 := .pointer none, d1 := h.d1 - 1, d2 := 0 } : Hd).cells = ({ h with d0 := .pointer none, d1 := 0, d2 := 0, d3 := false } : Hd).cells := by simp only [Hd.cells, h3, hz1]
        rw [e]
        exact hb5
      · have hz1 : ¬ h.d1 - 1 = 0 := by omega
        have HV := Lib.hid hv
        clear hv
        go_wp2_with fail
        go_ret
        refine ⟨rfl, .pointer v, d2', ?_, ?_, ?_, HK.out.1.mono (fun x _ e => e.imp id (fun e => by rw [e0, e]))⟩
        · have e : ({ h with d0 := .pointer v, d1 := h.d1 - 1, d2 := d2' } : Hd).cells = ({ h with d0 := .pointer v, d1 := h.d1 - 1, d2 := d2', d3 := false } : Hd).cells := by simp only [Hd.cells, h3]
          rw [e]
          exact HK.out.2.1
        · rcases HV.out with ⟨hz, rfl⟩ | ⟨hz, rfl⟩
          · refine .inl ⟨rfl, fun x hx => ?_⟩
            have := (HBI.out x).2 hx
            rw [hz, Nat.zero_testBit] at this
            cases this
          · exact .inr ⟨nb, _, rfl, HK.out.2.2, Nat.xor_lt_two_pow (n := 64) hB (pow_lt hk), HBI.out⟩
        · rcases HV.out with ⟨hz, rfl⟩ | ⟨hz, rfl⟩
          · exact .inr rfl
          · exact .inl e0.symm

end Go.Proofs.YtmblkpjnafgplaaGreatDoor

namespace Go.Proofs.YtmblkpjnafgplaaGreatDoor
open Go Go.RowKit
set_option maxRecDepth 100000
set_option linter.unusedVariables false
set_option linter.unusedSimpArgs false

/-- the set, from t on -/
def DelSt (w wr : World) (ms : Nat) (h : Hd) (X : Nat → Prop) (t : Nat) : Prop :=
  ∃ d0 d1 d2, Blk wr ms 87 ({ h with d0 := d0, d1 := d1, d2 := d2 } : Hd).cells ∧ DAt wr d0 (fun x => t ≤ x ∧ X x) ∧ (d0 = h.d0 ∨ d0 = .pointer none) ∧
    (∃ l : List Nat, l.Nodup ∧ (∀ x, x ∈ l ↔ t ≤ x ∧ X x) ∧ d1 = (l.length : Int)) ∧ Keep (fun x => x = ms ∨ h.d0 = .pointer (some ⟨x, 0, none⟩)) w wr

theorem nat_nodup_le : ∀ {l r : List Nat}, l.Nodup → (∀ x ∈ l, x ∈ r) → l.length ≤ r.length
  | [], _, _, _ => by simp
  | x :: l, r, hn, h => by
    have hx := h x (by simp)
    obtain ⟨a, b, rfl⟩ := List.append_of_mem hx
    have := nat_nodup_le (l := l) (r := a ++ b) (List.nodup_cons.1 hn).2 (fun y hy => by
      have h1 := h y (List.mem_cons_of_mem _ hy)
      rcases List.mem_append.1 h1 with h2 | h2
      · exact List.mem_append.2 (.inl h2)
      · rcases List.mem_cons.1 h2 with rfl | h2
        · exact absurd hy (List.nodup_cons.1 hn).1
        · exact List.mem_append.2 (.inr h2))
    simp only [List.length_cons, List.length_append] at this ⊢
    omega

theorem nodup_le {l : List Nat} (h : l.Nodup) {n : Nat} (hx : ∀ x ∈ l, x < n) : l.length ≤ n := by
  have := nat_nodup_le (r := List.range n) h (fun x h => List.mem_range.2 (hx x h))
  simpa using this

theorem del_step {w wr : World} {ms : Nat} {h : Hd} {X : Nat → Prop} {t : Nat} (hs : DelSt w wr ms h X t) (h3 : h.d3 = false) (hX : X t) (hle : ∀ x, X x → x ≤ 30) (hne : ∀ nb, h.d0 = .pointer (some ⟨nb, 0, none⟩) → nb ≠ ms) :
    Calls Tryz.prog 77 #[.pointer (some ⟨ms, 27, none⟩), .int .u64 (t : Int)] wr fun e w' => e = .returned (.bool true) ∧ DelSt w w' ms h X (t + 1) := by
  obtain ⟨d0, d1, d2, hb, hd, he, ⟨l, hl, hlm, rfl⟩, hk⟩ := hs
  have htl : t ∈ l := (hlm t).2 ⟨Nat.le_refl _, hX⟩
  have hl1 : 1 ≤ l.length := List.length_pos_of_mem htl
  have hl2 : l.length ≤ 31 := nodup_le hl (fun x hx => by have := hle x ((hlm x).1 hx).2; omega)
  have ht := hle t hX
  have hne2 : ∀ nb, d0 = .pointer (some ⟨nb, 0, none⟩) → nb ≠ ms := fun nb e => by
    rcases he with he | he
    · exact hne nb (he ▸ e)
    · rw [he] at e; cases e
  have hone : ((l.length : Nat) : Int) = 1 → ∀ x, (t ≤ x ∧ X x) → x = t := fun e x hx => by
    have hx' := (hlm x).2 hx
    obtain ⟨y, rfl⟩ := List.length_eq_one_iff.1 (by omega : l.length = 1)
    rw [List.mem_singleton] at hx' htl
    rw [hx', htl]
  refine (delete_any (h := { h with d0 := d0, d1 := (l.length : Int), d2 := d2 }) hb hd h3 ⟨by simp only; omega, by simp only; omega⟩ (by omega) ⟨Nat.le_refl _, hX⟩ hone hne2).mono ?_
  rintro e w' ⟨rfl, d0', d2', hb', hd', he', hk'⟩
  refine ⟨rfl, d0', ((l.length : Nat) : Int) - 1, d2', hb', ?_, ?_, ⟨l.erase t, hl.erase t, fun x => ?_, ?_⟩, hk.trans hk' (fun k _ hx => ?_)⟩
  · have : (fun x => t + 1 ≤ x ∧ X x) = (fun x => (t ≤ x ∧ X x) ∧ x ≠ t) := by
      funext x
      apply propext
      constructor
      · rintro ⟨a, b⟩; exact ⟨⟨by omega, b⟩, by omega⟩
      · rintro ⟨⟨a, b⟩, c⟩; exact ⟨by omega, b⟩
    rw [this]; exact hd'
  · rcases he' with rfl | rfl
    · exact he
    · exact .inr rfl
  · rw [hl.mem_erase_iff, hlm]
    constructor
    · rintro ⟨a, b, c⟩; exact ⟨by omega, c⟩
    · rintro ⟨a, b⟩; exact ⟨by omega, by omega, b⟩
  · rw [List.length_erase_of_mem htl]; omega
  · rcases hx with hx | hx
    · exact .inl hx
    · rcases he with he | he
      · simp only at hx; exact .inr (he ▸ hx)
      · simp only at hx; rw [he] at hx; cases hx

theorem first_far {w : World} {ms : Nat} {h : Hd} {k : Nat} (hb : Blk w ms 87 h.cells) (hk : k ≠ h.fsq) (hn : h.fsq ≤ 30) (hk2 : k ≤ 30) :
    Calls Tryz.prog 137 #[.pointer (some ⟨ms, 0, none⟩), .int .u64 (k : Int)] w fun e w' => e = .returned (.tuple #[]) ∧ w' = w := by
  have c16 : w.cell? ⟨ms, 16, none⟩ = some (.int .u64 (h.fsq : Int)) := by rw [hb.cell]; rfl
  have hk' : ¬ (k : Int) = (h.fsq : Int) := by omega
  clear hb
  go_enter Tryz.func137, Tryz.ntmps137
  go_wp2_with fail
  refine bodyPost_ret (results_none rfl _ _ _) rfl ?_
  exact ⟨rfl, rfl⟩

set_option maxHeartbeats 4000000 in
theorem first_any {w : World} {ms : Nat} {h : Hd} {L : List (Nat × Nat)} {q jb : Nat} {ts : Int} {X : Nat → Prop} {C : Array Value} {l : List Nat} (hb : Blk w ms 87 h.cells) (hm : MapAt w h.r L) (hnd : (L.map Prod.fst).Nodup)
    (hfq : h.fsq < q) (hno : ∀ t, h.fsq < t → t < q → ∀ x ∈ L, x.1 ≠ t) (hj : (q, jb) ∈ L) (hqn : q ≤ h.n) (hn : h.n ≤ 30)
    (hjb : Blk w jb 145 C) (h4 : C[4]? = some (.int .u64 (q : Int))) (h5 : C[5]? = some (.int .i64 ts))
    (hd : DAt w h.d0 X) (h3 : h.d3 = false) (hX : ∀ t, h.fsq ≤ t → t < q → X t) (hXl : ∀ x, X x → h.fsq ≤ x ∧ x ≤ 30) (hl : l.Nodup) (hlm : ∀ x, x ∈ l ↔ X x) (hd1 : h.d1 = (l.length : Int)) (hne : ∀ nb, h.d0 = .pointer (some ⟨nb, 0, none⟩) → nb ≠ ms) :
    Calls Tryz.prog 137 #[.pointer (some ⟨ms, 0, none⟩), .int .u64 (h.fsq : Int)] w fun e w' => e = .returned (.tuple #[]) ∧ DelSt w w' ms { h with fsq := q, ft := ts } X q := by
  have c16 : w.cell? ⟨ms, 16, none⟩ = some (.int .u64 (h.fsq : Int)) := by rw [hb.cell]; rfl
  have c17 : w.cell? ⟨ms, 17, none⟩ = some (.int .i64 h.ft) := by rw [hb.cell]; rfl
  have c18 : w.cell? ⟨ms, 18, none⟩ = some (.int .u64 (h.n : Int)) := by rw [hb.cell]; rfl
  have c25 : w.cell? ⟨ms, 25, none⟩ = some (.map (some h.r)) := by rw [hb.cell]; rfl
  have y4 : w.cell? ⟨jb, 4, none⟩ = some (.int .u64 (q : Int)) := by rw [hjb.cell]; exact h4
  have y5 : w.cell? ⟨jb, 5, none⟩ = some (.int .i64 ts) := by rw [hjb.cell]; exact h5
  have hjm : jb ≠ ms := hjb.ne_ hb (by decide)
  have f16 := hb.frozen 16
  have f17 := hb.frozen 17
  have hk2 : Keep (fun x => x = ms ∨ h.d0 = .pointer (some ⟨x, 0, none⟩)) w ((w.setCell ⟨ms, 16, none⟩ (.int .u64 (q : Int))).setCell ⟨ms, 17, none⟩ (.int .i64 ts)) := ((Keep.refl _ w).put (.inl rfl) 16 _).put (.inl rfl) 17 _
  have hb2 : Blk ((w.setCell ⟨ms, 16, none⟩ (.int .u64 (q : Int))).setCell ⟨ms, 17, none⟩ (.int .i64 ts)) ms 87 ({ h with fsq := q, ft := ts } : Hd).cells := (hb.set_ 16 _).set_ 17 _
  have hst : DelSt w ((w.setCell ⟨ms, 16, none⟩ (.int .u64 (q : Int))).setCell ⟨ms, 17, none⟩ (.int .i64 ts)) ms { h with fsq := q, ft := ts } X h.fsq := by
    have hXe : (fun x => h.fsq ≤ x ∧ X x) = X := by
      funext x; exact propext ⟨fun a => a.2, fun a => ⟨(hXl x a).1, a⟩⟩
    refine ⟨h.d0, h.d1, h.d2, hb2, ?_, .inl rfl, ⟨l, hl, fun x => by rw [hlm]; exact ⟨fun a => ⟨(hXl x a).1, a⟩, fun a => a.2⟩, hd1⟩, hk2⟩
    rw [hXe]
    rcases hd with ⟨e0, hno⟩ | ⟨nb, B, e0, hnb, hB, hX2⟩
    · exact .inl ⟨e0, hno⟩
    · exact .inr ⟨nb, B, e0, (((keep1 w ms 16 _).put rfl 17 _)).blk hnb (hne nb e0), hB, hX2⟩
  have HST := Lib.hid (And.intro hst (And.intro hX hXl))
  have HM := Lib.hid (And.intro hm (And.intro hnd (And.intro hj hno)))
  have z16 : ((w.setCell ⟨ms, 16, none⟩ (.int .u64 (q : Int))).setCell ⟨ms, 17, none⟩ (.int .i64 ts)).cell? ⟨ms, 16, none⟩ = some (.int .u64 (q : Int)) := by rw [hb2.cell]; rfl
  clear hb hm hnd hj hno hjb h4 h5 hd hX hXl hl hlm hd1 hst hb2 hk2
  have g0 : (0 : Int) ≤ (h.fsq : Int) := Int.natCast_nonneg _
  have g1 : (h.fsq : Int) < (q : Int) := by omega
  have g2 : (q : Int) ≤ (h.n : Int) := by omega
  have g3 : (h.n : Int) ≤ 30 := by omega
  go_enter Tryz.func137, Tryz.ntmps137
  go_wp2_with fail
  go_loop [4, 5, 6] (fun v4 v5 v6 => v4 = .pointer none ∧ ∃ t : Nat, v6 = .int .u64 (t : Int) ∧ h.fsq < t ∧ t ≤ q) (fun _ _ v6 => q + 1 - (intOf v6).toNat)
  case atStart => exact ⟨rfl, h.fsq + 1, by go_num, by omega, by omega⟩
  case round =>
    obtain ⟨rfl, t, rfl, ht1, ht2⟩ := hrel
    have k0 : (0 : Int) ≤ (t : Int) := Int.natCast_nonneg _
    have k1 : (t : Int) ≤ (h.n : Int) := by omega
    by_cases htk : t = q
    · subst htk
      have f77 : ∀ wr, DelSt w wr ms { h with fsq := t, ft := ts } X h.fsq → Calls Tryz.prog 77 #[.pointer (some ⟨ms, 27, none⟩), .int .u64 (h.fsq : Int)] wr fun e w' => e = .returned (.bool true) ∧ DelSt w w' ms { h with fsq := t, ft := ts } X (h.fsq + 1) :=
        fun wr hs => del_step hs h3 (HST.out.2.1 _ (Nat.le_refl _) hfq) (fun x hx => (HST.out.2.2 x hx).2) hne
      have HF := Lib.hid f77
      clear f77
      by_cases hone : t = h.fsq + 1
      · have hone' : (t : Int) - 1 = (h.fsq : Int) := by omega
        have HO := Lib.hid hone
        clear hone
        go_wp2_with (first | (refine wpList_look rfl _ _ rfl t jb rfl rfl HM.out.1 HM.out.2.1 HM.out.2.2.1 ?_) | fail)
        generalize hw2 : ((w.setCell ⟨ms, 16, none⟩ (.int .u64 (t : Int))).setCell ⟨ms, 17, none⟩ (.int .i64 ts)) = w2 at *
        refine (HF.out _ HST.out.1).mono ?_
        rintro e w3 ⟨rfl, hd3⟩
        rw [← HO.out] at hd3
        have HD := Lib.hid hd3
        clear hd3
        go_wp2_with fail
        go_end0
        exact ⟨rfl, HD.out⟩
      · have hone' : ¬ (h.fsq : Int) = (t : Int) - 1 := by omega
        clear hone
        go_wp2_with (first | (refine wpList_look rfl _ _ rfl t jb rfl rfl HM.out.1 HM.out.2.1 HM.out.2.2.1 ?_) | fail)
        generalize hw2 : ((w.setCell ⟨ms, 16, none⟩ (.int .u64 (t : Int))).setCell ⟨ms, 17, none⟩ (.int .i64 ts)) = w2 at *
        go_loopw [8] (fun v8 wr => ∃ u : Nat, v8 = .int .u64 (u : Int) ∧ h.fsq ≤ u ∧ u ≤ t ∧ DelSt w wr ms { h with fsq := t, ft := ts } X u) (fun v8 _ => t - (intOf v8).toNat)
        case atStart => exact ⟨h.fsq, rfl, Nat.le_refl _, by omega, HST.out.1⟩
        case round =>
          obtain ⟨u, rfl, hu1, hu2, hds⟩ := hrel
          obtain ⟨d0, d1, d2, hb, hd, he, hl, hk⟩ := id hds
          have c16r : wr.cell? ⟨ms, 16, none⟩ = some (.int .u64 (t : Int)) := by rw [hb.cell]; rfl
          have m0 : (0 : Int) ≤ (u : Int) := Int.natCast_nonneg _
          have HD := Lib.hid hds
          clear hds hb hd he hl hk
          by_cases hut : u = t
          · subst hut
            go_wp2_with fail
            go_end0
            exact ⟨rfl, HD.out⟩
          · have hul : (u : Int) < (t : Int) := by omega
            go_wp2_with fail
            refine (del_step HD.out h3 (HST.out.2.1 _ hu1 (by omega)) (fun x hx => (HST.out.2.2 x hx).2) hne).mono ?_
            rintro e w3 ⟨rfl, hd3⟩
            have HE := Lib.hid hd3
            clear hd3
            go_wp2_with fail
            exact ⟨⟨u + 1, by go_num, by omega, by omega, HE.out⟩, by simp [intOf]; omega⟩
    · have hlt : t < q := by omega
      have hn0 : ∀ x ∈ L, x.1 ≠ t := HM.out.2.2.2 t ht1 hlt
      have HN := Lib.hid hn0
      clear hn0
      go_wp2_with (first | (refine wpList_look_no rfl _ _ rfl t rfl rfl HM.out.1 HN.out ?_) | fail)
      exact ⟨⟨rfl, t + 1, by go_num, by omega, by omega⟩, by simp [intOf]; omega⟩

end Go.Proofs.YtmblkpjnafgplaaGreatDoor

namespace Go.Proofs.YtmblkpjnafgplaaGreatDoor
open Go Go.RowKit
set_option maxRecDepth 100000
set_option linter.unusedVariables false
set_option linter.unusedSimpArgs false

set_option maxHeartbeats 4000000 in
theorem perSub_any {w : World} {ms : Nat} {h : Hd} {M : List Ent} {F : List Nat} {sz : Int} {s : Bs} {b m k ls : Nat} {C : Array Value} (hb : Blk w ms 87 h.cells) (ht : TreeAt w h.tb sz M F) (hsh : Short M) (huq : (M.map Prod.fst).Nodup) (hM : (s, b) ∈ M) (hs1 : s.length < 2 ^ 31)
    (hC : Blk w b 267 C) (hz : 5 < C.size) (h0 : C[0]? = some (.int .u64 (m : Int))) (h1 : C[1]? = some (.int .u64 (k : Int))) (h2 : C[2]? = some (.int .u64 (ls : Int))) (h3 : C[3]? = some (.bool false)) (h4 : C[4]? = some (.bool false))
    (hm : 2 ≤ m) (hm2 : m ≤ 100) (hk : k ≠ ls) (hkb : k ≤ 100) (hlb : ls ≤ 100) :
    Calls Tryz.prog 75 #[.pointer (some ⟨ms, 0, none⟩), str s, .int .u64 (k : Int)] w fun e w' => e = .returned (.tuple #[]) ∧
      ∃ C', Blk w' b 267 C' ∧ C'.size = C.size ∧ C'[0]? = some (.int .u64 ((m - 1 : Nat) : Int)) ∧ C'[1]? = some (.int .u64 ((if m = 2 then ls else k : Nat) : Int)) ∧ C'[2]? = some (.int .u64 (ls : Int)) ∧ C'[3]? = some (.bool (decide (m ≠ 2))) ∧ C'[4]? = some (.bool false) ∧ C'[5]? = C[5]? ∧ Keep (fun k => k = b) w w' := by
  have c26 : w.cell? ⟨ms, 26, none⟩ = some (.pointer (some ⟨h.tb, 0, none⟩)) := by rw [hb.cell]; rfl
  have hlb2 : ByteArray.size ⟨s.toArray⟩ = s.length := by simp [ByteArray.size]
  have hstb := stb2_any s
  have hl63 : s.length < 2 ^ 63 := by omega
  have hl61 : s.length ≤ 2305843009213693952 := by omega
  have SS := Lib.hid (And.intro ht (And.intro hsh (And.intro huq (And.intro hM (And.intro hC hz)))))
  have x0 : w.cell? ⟨b, 0, none⟩ = some (.int .u64 (m : Int)) := by rw [hC.cell]; exact h0
  have x1 : w.cell? ⟨b, 1, none⟩ = some (.int .u64 (k : Int)) := by rw [hC.cell]; exact h1
  have x2 : w.cell? ⟨b, 2, none⟩ = some (.int .u64 (ls : Int)) := by rw [hC.cell]; exact h2
  have x3 : w.cell? ⟨b, 3, none⟩ = some (.bool false) := by rw [hC.cell]; exact h3
  have x4 : w.cell? ⟨b, 4, none⟩ = some (.bool false) := by rw [hC.cell]; exact h4
  have f0 := hC.frozen 0
  have f1 := hC.frozen 1
  have f2 := hC.frozen 2
  have f3 := hC.frozen 3
  have f4 := hC.frozen 4
  have HX := Lib.hid (And.intro x0 (And.intro x1 (And.intro x2 (And.intro x3 x4))))
  have HF := Lib.hid (And.intro f0 (And.intro f1 (And.intro f3 f4)))
  have HC := Lib.hid (And.intro h1 (And.intro h2 h4))
  clear ht hsh huq hM hC h0 h1 h2 h3 h4 hb x0 x1 x2 x3 x4 f0 f1 f2 f3 f4
  go_enter Tryz.func75, Tryz.ntmps75
  go_wp2_with fail
  go_region_held3 (fun w' => w'.cell? ⟨ms, 26, none⟩ = some (.pointer (some ⟨h.tb, 0, none⟩))) (first | exact c26 | exact k1.cellS c26 (fun h => h))
    (first | (go_at_call 96; refine (hstb _ hl63).mono ?_; rintro e w1 ⟨A1, c1, rfl, l1, r1, b1, k1⟩) | (go_at_call 122; refine (find_at (SS.out.1.keep (((Keep.refl NoB w).drew).none_trans k1) (fun h => h) (fun k _ h => h)) SS.out.2.1 A1 _ c1 s r1 hl61 l1).mono ?_; rintro e w2 ⟨p7, ok7, q, rfl, rfl, hgot⟩))
  all_goals
    have hk := ((((Keep.refl NoB w).drew).none_trans k1).drewN q)
    clear hstb r1 b1 k1 l1 c26
    generalize w1.drewN q = wz at hk ⊢
    rcases hgot with ⟨b', hbM, rfl, rfl⟩ | ⟨hnM, rfl, rfl⟩
    case inr => exact absurd SS.out.2.2.2.1 (hnM b)
    obtain rfl : b' = b := congrArg Prod.snd (inj_of_nodup SS.out.2.2.1 hbM SS.out.2.2.2.1 rfl)
    have y0 := hk.cellS HX.out.1 (fun h => h)
    have y1 := hk.cellS HX.out.2.1 (fun h => h)
    have y2 := hk.cellS HX.out.2.2.1 (fun h => h)
    have y3 := hk.cellS HX.out.2.2.2.1 (fun h => h)
    have y4 := hk.cellS HX.out.2.2.2.2 (fun h => h)
    have hbz := hk.blk SS.out.2.2.2.2.1 (fun h => h)
    have f0 := hbz.frozen 0
    have f1 := hbz.frozen 1
    have f3 := hbz.frozen 3
    have f4 := hbz.frozen 4
    have HK := Lib.hid (And.intro hk (And.intro hbz (And.intro hbM SS.out.2.2.2.2.2)))
    clear hk hbz hbM
    have g0 : (2 : Int) ≤ (m : Int) := by omega
    have g1 : (m : Int) ≤ 100 := by omega
    have g2 : ¬ (m : Int) = 1 := by omega
    have g3 : ¬ (k : Int) = (ls : Int) := by omega
    by_cases hm2' : m = 2
    · have g4 : (m : Int) - 1 = 1 := by omega
      have hm2'' := Lib.hid hm2'
      clear hm2'
      go_wp2_with fail
      refine bodyPost_ret (results_none rfl _ _ _) rfl ?_
      have hmm := hm2''.out
      subst hmm
      refine ⟨rfl, ?_⟩
      have hz := HK.out.2.2.2
      have hk0 : Keep (fun k => k = b') w wz := HK.out.1.mono (fun _ _ h => h.elim)
      have hbb := ((HK.out.2.1.set_ 0 (.int .u64 1)).set_ 1 (.int .u64 (ls : Int))).set_ 3 (.bool false)
      have l0 : 0 < C.size := by omega
      have l1 : 1 < C.size := by omega
      have l3 : 3 < C.size := by omega
      exact ⟨_, hbb, by simp, by simp [l0], by simp [l1], by simpa using HC.out.2.1, by simp [l3], by simpa using HC.out.2.2, by simp, ((hk0.put rfl 0 _).put rfl 1 _).put rfl 3 _⟩
    · have g4 : ¬ (m : Int) - 1 = 1 := by omega
      have hm2'' := Lib.hid hm2'
      clear hm2'
      go_wp2_with fail
      go_end0
      refine ⟨rfl, ?_⟩
      have hz := HK.out.2.2.2
      have hk0 : Keep (fun k => k = b') w wz := HK.out.1.mono (fun _ _ h => h.elim)
      have e1 : ((m - 1 : Nat) : Int) = (m : Int) - 1 := by omega
      have e2 : ((k : Int) == (ls : Int)) = false := by rw [beq_eq_false_iff_ne]; exact g3
      rw [e1, e2]
      have hbb := ((HK.out.2.1.set_ 0 (.int .u64 ((m : Int) - 1))).set_ 3 (.bool true)).set_ 4 (.bool false)
      have l0 : 0 < C.size := by omega
      have l4 : 4 < C.size := by omega
      have l3 : 3 < C.size := by omega
      exact ⟨_, hbb, by simp, by simp [l0], by simpa using HC.out.1, by simpa using HC.out.2.1, by simp [l3], by simp [l4], by simp, ((hk0.put rfl 0 _).put rfl 3 _).put rfl 4 _⟩

end Go.Proofs.YtmblkpjnafgplaaGreatDoor

namespace Go.Proofs.YtmblkpjnafgplaaGreatDoor
open Go Go.RowKit
set_option maxRecDepth 100000
set_option linter.unusedVariables false
set_option linter.unusedSimpArgs false

/-- what updateFirstSeq leaves -/
def FirstPost (w2 w3 : World) (ms : Nat) (h2 : Hd) (I : List Item) : Prop :=
  ∃ fsq ft d0 d1 d2, Blk w3 ms 87 ({ h2 with fsq := fsq, ft := ft, d0 := d0, d1 := d1, d2 := d2 } : Hd).cells ∧ (∀ j, I.head? = some j → fsq = j.seq) ∧
    DAt w3 d0 (fun x => fsq < x ∧ x ≤ h2.n ∧ x ∉ I.map Item.seq) ∧ (d0 = h2.d0 ∨ d0 = .pointer none) ∧
    (∃ l : List Nat, l.Nodup ∧ (∀ x, x ∈ l ↔ (fsq < x ∧ x ≤ h2.n ∧ x ∉ I.map Item.seq)) ∧ d1 = (l.length : Int)) ∧ Keep (fun x => x = ms ∨ h2.d0 = .pointer (some ⟨x, 0, none⟩)) w2 w3

theorem DAt.iff {w : World} {d : Value} {X Y : Nat → Prop} (h : DAt w d X) (e : ∀ x, X x ↔ Y x) : DAt w d Y := by
  have : X = Y := funext fun x => propext (e x)
  rw [← this]; exact h

theorem first_post {w2 : World} {ms : Nat} {h2 : Hd} {A B : List Item} {i : Item} {l : List Nat} (hb : Blk w2 ms 87 h2.cells) (hm : MapAt w2 h2.r ((A ++ i :: B).map fun j => (j.seq, j.blk))) (srt : ((A ++ i :: B).map Item.seq).Pairwise (· < ·))
    (num : ∀ j ∈ A ++ i :: B, 1 ≤ j.seq ∧ j.seq ≤ h2.n) (few : h2.n ≤ 30) (hB : B ≠ []) (hfirst : ∀ j, (A ++ i :: B).head? = some j → h2.fsq = j.seq)
    (hmsg : ∀ j ∈ B, ∃ C, Blk w2 j.blk 145 C ∧ C[4]? = some (.int .u64 (j.seq : Int)) ∧ C[5]? = some (.int .i64 j.rc.ts))
    (hd : DAt w2 h2.d0 (fun x => (h2.fsq < x ∧ x ≤ h2.n ∧ x ∉ (A ++ i :: B).map Item.seq) ∨ x = i.seq)) (h3 : h2.d3 = false) (hl : l.Nodup) (hlm : ∀ x, x ∈ l ↔ ((h2.fsq < x ∧ x ≤ h2.n ∧ x ∉ (A ++ i :: B).map Item.seq) ∨ x = i.seq)) (hd1 : h2.d1 = (l.length : Int))
    (hne : ∀ nb, h2.d0 = .pointer (some ⟨nb, 0, none⟩) → nb ≠ ms) :
    Calls Tryz.prog 137 #[.pointer (some ⟨ms, 0, none⟩), .int .u64 (i.seq : Int)] w2 fun e w3 => e = .returned (.tuple #[]) ∧ FirstPost w2 w3 ms h2 (A ++ B) := by
  have hi := num i (List.mem_append.2 (.inr List.mem_cons_self))
  have hnd : (((A ++ i :: B).map fun j => (j.seq, j.blk)).map Prod.fst).Nodup := by
    rw [List.map_map]
    exact srt.imp (fun h => Nat.ne_of_lt h)
  cases A with
  | nil =>
    obtain ⟨j, B', rfl⟩ := List.exists_cons_of_ne_nil hB
    have hf : h2.fsq = i.seq := hfirst i rfl
    simp only [List.nil_append, List.map_cons, List.pairwise_cons, List.mem_cons, List.mem_map] at srt
    have hij : i.seq < j.seq := srt.1 j.seq (.inl rfl)
    have hjB : ∀ x ∈ B', j.seq < x.seq := fun x hx => srt.2.1 _ ⟨x, hx, rfl⟩
    have hj := num j (by simp)
    obtain ⟨C, hC, c4, c5⟩ := hmsg j (by simp)
    have hnot : ∀ t, i.seq < t → t < j.seq → t ∉ ([] ++ i :: j :: B').map Item.seq := fun t h1 h2 hx => by
      simp only [List.nil_append, List.map_cons, List.mem_cons, List.mem_map] at hx
      rcases hx with h | h | ⟨x, hx, h⟩
      · omega
      · omega
      · have := hjB x hx; omega
    have hfa := first_any (l := l) hb hm hnd (q := j.seq) (jb := j.blk) (ts := j.rc.ts) (by omega) (fun t h1 h2 x hx e => by
        obtain ⟨y, hy, rfl⟩ := List.mem_map.1 hx
        exact hnot t (by omega) h2 (List.mem_map.2 ⟨y, hy, e⟩)) (by simp) hj.2 few hC c4 c5 hd h3 (fun t h1 h2 => by
        by_cases e : t = i.seq
        · exact .inr e
        · exact .inl ⟨by omega, by omega, hnot t (by omega) h2⟩) (fun x hx => by rcases hx with ⟨a, b, c⟩ | a <;> omega) hl hlm hd1 hne
    rw [hf] at hfa
    refine hfa.mono ?_
    rintro e w3 ⟨rfl, d0, d1, d2, hb3, hd3, he3, ⟨l3, hl3, hm3, e3⟩, hk3⟩
    have hX : ∀ x, (j.seq ≤ x ∧ ((i.seq < x ∧ x ≤ h2.n ∧ x ∉ ([] ++ i :: j :: B').map Item.seq) ∨ x = i.seq)) ↔ (j.seq < x ∧ x ≤ h2.n ∧ x ∉ ([] ++ j :: B').map Item.seq) := by
      intro x
      simp only [List.nil_append, List.map_cons, List.mem_cons, not_or]
      constructor
      · rintro ⟨a, ⟨b, c, d, e, f⟩ | b⟩
        · exact ⟨by omega, c, e, f⟩
        · omega
      · rintro ⟨a, b, c, d⟩
        exact ⟨by omega, .inl ⟨by omega, b, by omega, c, d⟩⟩
    refine ⟨rfl, j.seq, j.rc.ts, d0, d1, d2, hb3, fun x hx => by simp only [List.nil_append, List.head?_cons, Option.some.injEq] at hx; rw [hx], hd3.iff hX, he3, ⟨l3, hl3, fun x => (hm3 x).trans (hX x), e3⟩, hk3⟩
  | cons a A' =>
    have hf : h2.fsq = a.seq := hfirst a rfl
    have hai : a.seq < i.seq := by
      simp only [List.cons_append, List.map_cons, List.pairwise_cons] at srt
      exact srt.1 i.seq (List.mem_map.2 ⟨i, by simp, rfl⟩)
    have hin : i.seq ∉ (a :: A' ++ B).map Item.seq := by
      rw [List.map_append, List.map_cons] at srt
      rw [List.map_append]
      intro hx
      have hp := List.pairwise_append.1 srt
      rcases List.mem_append.1 hx with h | h
      · have := hp.2.2 _ h i.seq (by simp); omega
      · have := (List.pairwise_cons.1 hp.2.1).1 _ h; omega
    have hX : ∀ x, ((h2.fsq < x ∧ x ≤ h2.n ∧ x ∉ (a :: A' ++ i :: B).map Item.seq) ∨ x = i.seq) ↔ (h2.fsq < x ∧ x ≤ h2.n ∧ x ∉ (a :: A' ++ B).map Item.seq) := by
      intro x
      constructor
      · rintro (⟨b, c, d⟩ | rfl)
        · refine ⟨b, c, fun hx => d ?_⟩
          rw [List.map_append] at hx ⊢
          rcases List.mem_append.1 hx with h | h
          · exact List.mem_append.2 (.inl h)
          · exact List.mem_append.2 (.inr (by rw [List.map_cons]; exact List.mem_cons_of_mem _ h))
        · exact ⟨by omega, hi.2, hin⟩
      · rintro ⟨b, c, d⟩
        by_cases e : x = i.seq
        · exact .inr e
        · refine .inl ⟨b, c, fun hx => d ?_⟩
          rw [List.map_append, List.map_cons] at hx
          rw [List.map_append]
          rcases List.mem_append.1 hx with h | h
          · exact List.mem_append.2 (.inl h)
          · rcases List.mem_cons.1 h with h | h
            · exact absurd h e
            · exact List.mem_append.2 (.inr h)
    refine (first_far hb (k := i.seq) (by omega) (by omega) (by omega)).mono ?_
    rintro e w3 ⟨rfl, rfl⟩
    exact ⟨rfl, h2.fsq, h2.ft, h2.d0, h2.d1, h2.d2, hb, fun x hx => by simp only [List.cons_append, List.head?_cons, Option.some.injEq] at hx; rw [← hx, hf], hd.iff hX, .inl rfl, ⟨l, hl, fun x => (hlm x).trans (hX x), hd1⟩, Keep.refl _ _⟩

section
variable {w : World} {ops : Array Oper} {rest : List Oper} {o : Oper} {a : Act} {Q : Exit → Act → World → Prop} {r : Nat} {L : List (Nat × Nat)}
theorem wpList_del (hg : o.guard = none) (m k : Operand) (hop : o.op = Op.call { callee := Callee.builtin Builtin.delete, args := #[m, k], argTypes := #[81, 25] }) (key b : Nat) (hm : a.eval m = .map (some r)) (hk : a.eval k = .int .u64 (key : Int))
    (h : MapAt w r L) (hd : (L.map Prod.fst).Nodup) (hn : (key, b) ∈ L) (hgo : ∀ w', MapAt w' r (L.filter fun x => x.1 != key) → Keep (fun x => x = r) w w' → wpList Tryz.prog ops Q rest (a.put o.dst (.tuple #[])) w') :
    wpList Tryz.prog ops Q (o :: rest) a w := by
  refine wpList_plain hg fun K hK' => ?_
  obtain ⟨w', hrun, r1, r2⟩ := h.del hd key b hn o.type
  unfold Oper.wp
  simp [execOp, hop, resolve, invoke, builtin, hm, hk, hrun, Result.andThen]
  exact hK' _ _ (hgo w' r1 r2)
end

theorem map_filter_out {A B : List Item} {i : Item} (srt : ((A ++ i :: B).map Item.seq).Pairwise (· < ·)) : ((A ++ i :: B).map fun j => (j.seq, j.blk)).filter (fun x => x.1 != i.seq) = (A ++ B).map fun j => (j.seq, j.blk) := by
  rw [List.map_append, List.map_cons] at srt
  have hp := List.pairwise_append.1 srt
  rw [List.map_append, List.map_append, List.map_cons, List.filter_append, List.filter_cons_of_neg (by simp)]
  rw [List.filter_eq_self.2, List.filter_eq_self.2]
  · intro x hx
    obtain ⟨j, hj, rfl⟩ := List.mem_map.1 hx
    have := (List.pairwise_cons.1 hp.2.1).1 j.seq (List.mem_map.2 ⟨j, hj, rfl⟩)
    simp only [bne_iff_ne, ne_eq]; omega
  · intro x hx
    obtain ⟨j, hj, rfl⟩ := List.mem_map.1 hx
    have := hp.2.2 j.seq (List.mem_map.2 ⟨j, hj, rfl⟩) i.seq (by simp)
    simp only [bne_iff_ne, ne_eq]; omega

end Go.Proofs.YtmblkpjnafgplaaGreatDoor
