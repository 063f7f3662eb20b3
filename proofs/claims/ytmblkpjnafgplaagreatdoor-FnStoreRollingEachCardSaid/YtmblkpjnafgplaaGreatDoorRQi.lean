/- deeds, stores: what they tell of a script of messages alone. -/
import Derived.Test.YtmblkpjnafgplaaGreatDoorR25
import Derived.Test.YtmblkpjnafgplaaGreatDoorR21
namespace Go.Proofs.YtmblkpjnafgplaaGreatDoor
open Go Go.RowKit
set_option maxRecDepth 100000
set_option linter.unusedVariables false
set_option linter.unusedSimpArgs false

/-- a step laid into a block that was just made -/
theorem wpList_store_box {w : World} {ops : Array Oper} {rest : List Oper} {o : Oper} {a : Act} {Q : Exit → Act → World → Prop} (hg : o.guard = none) (x y : Operand) (hop : o.op = .store 46 x y) (CS : Array Value) (hz : CS.size = 16) (hone : CS.all (·.oneCell') = true)
    (hx : a.eval x = .pointer (some ⟨w.heap.size, 0, none⟩)) (hy : a.eval y = .agg CS)
    (hgo : ∀ w', Blk w' w.heap.size 46 CS → Keep NoB w w' → wpList Tryz.prog ops Q rest (a.put o.dst undef) w') :
    wpList Tryz.prog ops Q (o :: rest) a (w.alloc (.cells zStep 46)) := by
  obtain ⟨b1, b2, b3⟩ := step_box w CS hz
  have hi46 : (Tryz.prog.info? 46).map (·.size) = some CS.size := by rw [hz]; kernel_rfl
  exact wpList_store_mid hg 46 x y hop w.heap.size 0 CS hx hy b1 hi46 hone (hgo _ b2 b3)

/-- a step's first cells -/
structure Cells8 (CS : Array Value) (v0 v1 v2 v3 v4 v5 v6 v7 : Value) : Prop where
  g0 : CS[0]? = some v0
  g1 : CS[1]? = some v1
  g2 : CS[2]? = some v2
  g3 : CS[3]? = some v3
  g4 : CS[4]? = some v4
  g5 : CS[5]? = some v5
  g6 : CS[6]? = some v6
  g7 : CS[7]? = some v7

theorem box_cells {W : World} {g t : Nat} {CS : Array Value} {v0 v1 v2 v3 v4 v5 v6 v7 : Value} (hb : Blk W g t CS) (h : Cells8 CS v0 v1 v2 v3 v4 v5 v6 v7) :
    W.cell? ⟨g, 0, none⟩ = some v0 ∧ W.cell? ⟨g, 1, none⟩ = some v1 ∧ W.cell? ⟨g, 2, none⟩ = some v2 ∧ W.cell? ⟨g, 3, none⟩ = some v3 ∧ W.cell? ⟨g, 4, none⟩ = some v4 ∧ W.cell? ⟨g, 5, none⟩ = some v5 ∧ W.cell? ⟨g, 6, none⟩ = some v6 ∧ W.cell? ⟨g, 7, none⟩ = some v7 := by
  refine ⟨?_, ?_, ?_, ?_, ?_, ?_, ?_, ?_⟩ <;> rw [hb.cell]
  · exact h.g0
  · exact h.g1
  · exact h.g2
  · exact h.g3
  · exact h.g4
  · exact h.g5
  · exact h.g6
  · exact h.g7

/-- what is told of a step of a script of messages alone -/
def OkS (sv : StepV) : Prop := sv.hdr.length ≤ 40 ∧ sv.dat.length ≤ 60 ∧ GoodS sv.subj

set_option maxHeartbeats 8000000 in
theorem deeds_any (A : Option Addr) (ss : List StepV) (c : Nat) (w : World) (hA : RowAt w 16 A ss.length (ss.flatMap StepV.cells)) (hin : ∀ sv ∈ ss, StepIn w sv) (h0 : ∀ sv ∈ ss, sv.op = 0) (hs : ∀ sv ∈ ss, sv.subj.length ≤ 2147483647) (hn : ss.length ≤ 9223372036854775807) :
    Calls Tryz.prog 12 #[.slice A ss.length c] w (FitP (ss.length ≤ 24 ∧ ∀ sv ∈ ss, OkS sv) w) := by
  have HA := Lib.hid (And.intro hA (And.intro hin (And.intro h0 hs)))
  have hi46 : (Tryz.prog.info? 46).map (·.size) = some 16 := by kernel_rfl
  clear hA hin h0 hs
  go_enter Tryz.func12, Tryz.ntmps12
  go_wp2_with fail
  go_loopw [3, 4, 5] (fun many last i wr => many = .int .u64 0 ∧ ∃ (j : Nat) (la : Int), last = .int .i64 la ∧ i = .int .i64 (j : Int) ∧ j ≤ ss.length ∧ Keep NoB w wr ∧ ∀ q sv, q < j → ss[q]? = some sv → OkS sv) (fun _ _ i _ => ss.length - (intOf i).toNat)
  case atStart => exact ⟨rfl, 0, 1, rfl, rfl, Nat.zero_le _, Keep.refl _ _, fun q sv h => by omega⟩
  case round =>
    obtain ⟨rfl, j, la, rfl, rfl, hj, hk, hq⟩ := hrel
    have HK := Lib.hid (And.intro hk hq)
    clear hk hq
    by_cases hlt : j < ss.length
    · obtain ⟨sv, hsv⟩ : ∃ sv, ss[j]? = some sv := ⟨ss[j], List.getElem?_eq_getElem hlt⟩
      have hm := List.mem_of_getElem? hsv
      obtain ⟨b, o, rfl, hr⟩ := (HA.out.1.keep HK.out.1 (fun _ _ _ h => h)).elem (fun _ => rfl) (by decide) hsv
      have hin := (HA.out.2.1 sv hm).keep HK.out.1
      have hop := HA.out.2.2.1 sv hm
      have hsl := HA.out.2.2.2 sv hm
      have hquit : OkS sv → ∀ q s, q < j + 1 → ss[q]? = some s → OkS s := fun ho q s hq h2 => by
        by_cases hqj : q = j
        · subst hqj
          rw [hsv] at h2
          injection h2 with h2
          subst h2
          exact ho
        · exact HK.out.2 q s (by omega) h2
      obtain ⟨op, subj, hA', hdr, hc, dA, dat, dc, t, seq, num, kp, lst, sA, sn, sc, q0, q1, q2, q3, q4, q5⟩ := sv
      simp only at hop hsl
      subst hop
      obtain ⟨CS, hCS⟩ : ∃ CS, CS = (StepV.cells ⟨0, subj, hA', hdr, hc, dA, dat, dc, t, seq, num, kp, lst, sA, sn, sc, q0, q1, q2, q3, q4, q5⟩).toArray := ⟨_, rfl⟩
      have hsz : CS.size = 16 := by rw [hCS]; rfl
      have hr' : wr.rangeAt b (o + j * 16) CS.toList := by rw [hCS]; exact hr
      have hone : CS.all (·.oneCell') = true := by rw [hCS]; exact step_plain _
      have hi1 : (Tryz.prog.info? 46).map (·.size) = some CS.toList.length := by rw [hi46]; simp [hsz]
      have g0 : CS[0]? = some (.int .i64 0) := by rw [hCS]; rfl
      have g1 : CS[1]? = some (str subj) := by rw [hCS]; rfl
      have g2 : CS[2]? = some (.slice hA' hdr.length hc) := by rw [hCS]; rfl
      have g3 : CS[3]? = some (.slice dA dat.length dc) := by rw [hCS]; rfl
      have g4 : CS[4]? = some (.int .i64 t) := by rw [hCS]; rfl
      have g5 : CS[5]? = some (.int .u64 seq) := by rw [hCS]; rfl
      have g6 : CS[6]? = some (.int .u64 num) := by rw [hCS]; rfl
      have g7 : CS[7]? = some (.int .u64 kp) := by rw [hCS]; rfl
      have hrow := hin.1
      have hbd := hin.2.2.2
      obtain ⟨_, hbh, hbdat, _⟩ := hbd
      simp only at hrow hbh hbdat
      have HC := Lib.hid (And.intro hr' (And.intro hone (And.intro hi1 (And.intro hsz (And.intro hrow hquit)))))
      have HG := Lib.hid (show Cells8 CS _ _ _ _ _ _ _ _ from ⟨g0, g1, g2, g3, g4, g5, g6, g7⟩)
      clear hr hr' hone hi1 hCS hsz hin hsv hm hquit hrow g0 g1 g2 g3 g4 g5 g6 g7
      have h0 : (0 : Int) ≤ (j : Int) := Int.natCast_nonneg _
      have h1 : (j : Int) < (ss.length : Int) := by omega
      by_cases c1 : hdr.length ≤ 40
      · have c1' : ¬ (40 : Int) < (hdr.length : Int) := by omega
        by_cases c2 : dat.length ≤ 60
        · have c2' : ¬ (60 : Int) < (dat.length : Int) := by omega
          by_cases c3 : num ≤ 60
          · have c3' : ¬ 60 < num := by omega
            by_cases c4 : seq ≤ 1125899906842624
            · have c4' : ¬ 1125899906842624 < seq := by omega
              by_cases c5 : kp ≤ 1000
              · have c5' : ¬ 1000 < kp := by omega
                go_wp2_with (first | (refine wpList_load_mid rfl 46 (.tmp 15) rfl b (o + j * 16) rfl CS.toList _ HC.out.1 Tryz.underlying46 rfl HC.out.2.2.1 ?_) | (refine wpList_store_box rfl (.tmp 6) (.tmp 16) rfl CS HC.out.2.2.2.1 HC.out.2.1 (by rfl) (by simp [Act.eval, Act.put]) ?_; intro W hbW hkW; have HW := Lib.hid (And.intro hbW hkW); obtain ⟨x0, x1, x2, x3, x4, x5, x6, x7⟩ := box_cells hbW HG.out; clear hbW hkW) | fail)
                refine (speaks_any hA' hc hdr W (HC.out.2.2.2.2.1.keep HW.out.2 (fun _ _ _ h => h)) (by omega)).mono ?_
                rintro e w1 ⟨bb, rfl, rfl⟩
                cases bb
                · go_wp2_with fail
                  refine (subject_any subj w1 hsl).mono ?_
                  rintro e w2 ⟨b2, rfl, hk2, hg2⟩
                  have H2 := Lib.hid (And.intro hk2 hg2)
                  have y0 := hk2.cellS x0 (fun h => h)
                  have y4 := hk2.cellS x4 (fun h => h)
                  clear hk2 hg2 x0 x1 x2 x3 x4 x5 x6 x7
                  cases b2
                  · go_wp2_with fail
                    go_ret
                    exact ⟨false, rfl, (HK.out.1.none_trans HW.out.2).none_trans H2.out.1, fun h => by cases h⟩
                  · by_cases c6 : t < la
                    · go_wp2_with fail
                      go_ret
                      exact ⟨false, rfl, (HK.out.1.none_trans HW.out.2).none_trans H2.out.1, fun h => by cases h⟩
                    · by_cases c7 : 1152921504606846976 < t
                      · go_wp2_with fail
                        go_ret
                        exact ⟨false, rfl, (HK.out.1.none_trans HW.out.2).none_trans H2.out.1, fun h => by cases h⟩
                      · go_wp2_with fail
                        refine ⟨⟨rfl, j + 1, t, rfl, by go_num, by omega, (HK.out.1.none_trans HW.out.2).none_trans H2.out.1, HC.out.2.2.2.2.2 ⟨c1, c2, H2.out.2 (by trivial)⟩⟩, by simp [intOf]; omega⟩
                · go_wp2_with fail
                  go_ret
                  exact ⟨false, rfl, HK.out.1.none_trans HW.out.2, fun h => by cases h⟩
              · have c5' : 1000 < kp := by omega
                go_wp2_with (first | (refine wpList_load_mid rfl 46 (.tmp 15) rfl b (o + j * 16) rfl CS.toList _ HC.out.1 Tryz.underlying46 rfl HC.out.2.2.1 ?_) | (refine wpList_store_box rfl (.tmp 6) (.tmp 16) rfl CS HC.out.2.2.2.1 HC.out.2.1 (by rfl) (by simp [Act.eval, Act.put]) ?_; intro W hbW hkW; have HW := Lib.hid (And.intro hbW hkW); obtain ⟨x0, x1, x2, x3, x4, x5, x6, x7⟩ := box_cells hbW HG.out; clear hbW hkW) | fail)
                refine (speaks_any hA' hc hdr W (HC.out.2.2.2.2.1.keep HW.out.2 (fun _ _ _ h => h)) (by omega)).mono ?_
                rintro e w1 ⟨bb, rfl, rfl⟩
                cases bb
                · go_wp2_with fail
                  go_ret
                  exact ⟨false, rfl, HK.out.1.none_trans HW.out.2, fun h => by cases h⟩
                · go_wp2_with fail
                  go_ret
                  exact ⟨false, rfl, HK.out.1.none_trans HW.out.2, fun h => by cases h⟩
            · have c4' : 1125899906842624 < seq := by omega
              go_wp2_with (first | (refine wpList_load_mid rfl 46 (.tmp 15) rfl b (o + j * 16) rfl CS.toList _ HC.out.1 Tryz.underlying46 rfl HC.out.2.2.1 ?_) | (refine wpList_store_box rfl (.tmp 6) (.tmp 16) rfl CS HC.out.2.2.2.1 HC.out.2.1 (by rfl) (by simp [Act.eval, Act.put]) ?_; intro W hbW hkW; have HW := Lib.hid (And.intro hbW hkW); obtain ⟨x0, x1, x2, x3, x4, x5, x6, x7⟩ := box_cells hbW HG.out; clear hbW hkW) | fail)
              refine (speaks_any hA' hc hdr W (HC.out.2.2.2.2.1.keep HW.out.2 (fun _ _ _ h => h)) (by omega)).mono ?_
              rintro e w1 ⟨bb, rfl, rfl⟩
              cases bb
              · go_wp2_with fail
                go_ret
                exact ⟨false, rfl, HK.out.1.none_trans HW.out.2, fun h => by cases h⟩
              · go_wp2_with fail
                go_ret
                exact ⟨false, rfl, HK.out.1.none_trans HW.out.2, fun h => by cases h⟩
          · have c3' : 60 < num := by omega
            go_wp2_with (first | (refine wpList_load_mid rfl 46 (.tmp 15) rfl b (o + j * 16) rfl CS.toList _ HC.out.1 Tryz.underlying46 rfl HC.out.2.2.1 ?_) | (refine wpList_store_box rfl (.tmp 6) (.tmp 16) rfl CS HC.out.2.2.2.1 HC.out.2.1 (by rfl) (by simp [Act.eval, Act.put]) ?_; intro W hbW hkW; have HW := Lib.hid (And.intro hbW hkW); obtain ⟨x0, x1, x2, x3, x4, x5, x6, x7⟩ := box_cells hbW HG.out; clear hbW hkW) | fail)
            refine (speaks_any hA' hc hdr W (HC.out.2.2.2.2.1.keep HW.out.2 (fun _ _ _ h => h)) (by omega)).mono ?_
            rintro e w1 ⟨bb, rfl, rfl⟩
            cases bb
            · go_wp2_with fail
              go_ret
              exact ⟨false, rfl, HK.out.1.none_trans HW.out.2, fun h => by cases h⟩
            · go_wp2_with fail
              go_ret
              exact ⟨false, rfl, HK.out.1.none_trans HW.out.2, fun h => by cases h⟩
        · have c2' : (60 : Int) < (dat.length : Int) := by omega
          go_wp2_with (first | (refine wpList_load_mid rfl 46 (.tmp 15) rfl b (o + j * 16) rfl CS.toList _ HC.out.1 Tryz.underlying46 rfl HC.out.2.2.1 ?_) | (refine wpList_store_box rfl (.tmp 6) (.tmp 16) rfl CS HC.out.2.2.2.1 HC.out.2.1 (by rfl) (by simp [Act.eval, Act.put]) ?_; intro W hbW hkW; have HW := Lib.hid (And.intro hbW hkW); obtain ⟨x0, x1, x2, x3, x4, x5, x6, x7⟩ := box_cells hbW HG.out; clear hbW hkW) | fail)
          refine (speaks_any hA' hc hdr W (HC.out.2.2.2.2.1.keep HW.out.2 (fun _ _ _ h => h)) (by omega)).mono ?_
          rintro e w1 ⟨bb, rfl, rfl⟩
          cases bb
          · go_wp2_with fail
            go_ret
            exact ⟨false, rfl, HK.out.1.none_trans HW.out.2, fun h => by cases h⟩
          · go_wp2_with fail
            go_ret
            exact ⟨false, rfl, HK.out.1.none_trans HW.out.2, fun h => by cases h⟩
      · have c1' : (40 : Int) < (hdr.length : Int) := by omega
        go_wp2_with (first | (refine wpList_load_mid rfl 46 (.tmp 15) rfl b (o + j * 16) rfl CS.toList _ HC.out.1 Tryz.underlying46 rfl HC.out.2.2.1 ?_) | (refine wpList_store_box rfl (.tmp 6) (.tmp 16) rfl CS HC.out.2.2.2.1 HC.out.2.1 (by rfl) (by simp [Act.eval, Act.put]) ?_; intro W hbW hkW; have HW := Lib.hid (And.intro hbW hkW); obtain ⟨x0, x1, x2, x3, x4, x5, x6, x7⟩ := box_cells hbW HG.out; clear hbW hkW) | fail)
        go_ret
        exact ⟨false, rfl, HK.out.1.none_trans HW.out.2, fun h => by cases h⟩
    · obtain rfl : j = ss.length := by omega
      have hfin : ∀ sv ∈ ss, OkS sv := fun sv hsv => by obtain ⟨q, hq⟩ := List.getElem?_of_mem hsv; exact HK.out.2 q sv (List.getElem?_eq_some_iff.1 hq).1 hq
      have HF := Lib.hid hfin
      clear hfin
      by_cases h24 : ss.length ≤ 24
      · go_wp2_with fail
        go_ret
        exact ⟨true, rfl, HK.out.1, fun _ => ⟨h24, HF.out⟩⟩
      · go_wp2_with fail
        go_ret
        exact ⟨false, rfl, HK.out.1, fun h => by cases h⟩

end Go.Proofs.YtmblkpjnafgplaaGreatDoor
