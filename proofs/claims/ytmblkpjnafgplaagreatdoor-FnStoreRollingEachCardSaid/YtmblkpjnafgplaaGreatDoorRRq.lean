/- FnStoreRollingEach: the walk. -/
import Derived.Test.YtmblkpjnafgplaaGreatDoorRQn
import Derived.Test.YtmblkpjnafgplaaGreatDoorRRp
namespace Go.Proofs.YtmblkpjnafgplaaGreatDoor
open Go Go.RowKit
set_option maxRecDepth 100000
set_option linter.unusedVariables false
set_option linter.unusedSimpArgs false

/-- of a value's own block: what it is owned from -/
theorem own_ge2 {w : World} {base E size n : Nat} {v : Value} {xs : List Value} (h : w.ownsRow base E size v n xs) : ∀ k, some k = v.ownBlock → base ≤ k := own_ge h

theorem held_last {w : World} {A : Option Addr} {ss : List StepV} {c : Nat} (er : Errs w) (S : Scr w A ss c) (mp : Nat) (h0 : 0 < mp) (h1 : mp ≤ 100) : Calls Tryz.prog 8 #[.agg (cfgC 0 mp false).toArray, .slice A ss.length c] w (HPost w (keepLast mp (numL ss))) := by
  have ha := runA_last mp h0 ss S.op
  exact held_any rawLaw1 stLaw1 0 mp 0 false rfl trivial (.inr rfl) (by decide) (by omega) (.inl ⟨rfl, rfl⟩) w er A ss c S.row S.ok S.op S.few ⟨0, mp, 0, ss.length, keepLast mp (numL ss)⟩ ha.symm (goodA_of rfl (keepLast_sub mp _)) S.few (fun x hx => numL_ok S.rc x ((keepLast_sub mp _).subset hx))

/-- how many of a subject lie between i and j -/
def later (l : List (Nat × Rec)) (s : Bs) (i j : Nat) : Nat := (((l.take j).drop (i + 1)).filter fun y => y.2.subj == s).length

theorem later_start (l : List (Nat × Rec)) (s : Bs) (i : Nat) : later l s i (i + 1) = 0 := by
  unfold later
  rw [List.drop_eq_nil_of_le (by rw [List.length_take]; omega)]; rfl
theorem later_step {l : List (Nat × Rec)} {s : Bs} {i j : Nat} {y : Nat × Rec} (hj : l[j]? = some y) (hi : i + 1 ≤ j) : later l s i (j + 1) = later l s i j + if y.2.subj = s then 1 else 0 := by
  have hjl := (List.getElem?_eq_some_iff.1 hj).1
  unfold later
  rw [List.take_add_one, hj, Option.toList_some, List.drop_append_of_le_length (by rw [List.length_take]; omega), List.filter_append, List.length_append]
  congr 1
  by_cases h : y.2.subj = s <;> simp [h]
theorem later_end {l : List (Nat × Rec)} {s : Bs} {i : Nat} : later l s i l.length = ((l.drop (i + 1)).filter fun y => y.2.subj == s).length := by
  unfold later; rw [List.take_length]
theorem later_le {l : List (Nat × Rec)} {s : Bs} {i j : Nat} : later l s i j ≤ l.length := by
  unfold later
  refine Nat.le_trans (List.length_filter_le _ _) ?_
  rw [List.length_drop, List.length_take]; omega

theorem keep_step {l W : List (Nat × Rec)} {mp i : Nat} {x : Nat × Rec} (hx : l[i]? = some x) (h : W ++ keepLast mp (l.drop i) = keepLast mp l) :
    (if later l x.2.subj i l.length < mp then W ++ [x] else W) ++ keepLast mp (l.drop (i + 1)) = keepLast mp l := by
  have hil := (List.getElem?_eq_some_iff.1 hx).1
  have hxe := (List.getElem?_eq_some_iff.1 hx).2
  rw [List.drop_eq_getElem_cons hil, hxe, keepLast] at h
  rw [later_end]
  split
  · rename_i hc
    rw [if_pos hc] at h
    rw [← h, List.append_assoc]; rfl
  · rename_i hc
    rw [if_neg hc] at h
    exact h

set_option maxHeartbeats 4000000 in
theorem rolling_any (w : World) (er : Errs w) (A : Option Addr) (ss : List StepV) (c : Nat) (most : Int) (hA : RowAt w 16 A ss.length (ss.flatMap StepV.cells)) (hc : ss.length ≤ c) (hin : ∀ sv ∈ ss, StepIn w sv) (hn : ss.length ≤ 9223372036854775807) :
    Calls Tryz.prog 4 #[.slice A ss.length c, .int .i64 most] w fun e w' => e = .returned (.bool true) ∧ Keep NoB w w' := by
  have HA := Lib.hid (And.intro hA (And.intro hin (And.intro er (zzFits8_any A ss c w hA hin hn))))
  clear hA hin er
  go_enter Tryz.func4, Tryz.ntmps4
  go_wp2_with fail
  refine HA.out.2.2.2.mono ?_
  rintro e w1 ⟨b, rfl, hk1, hb⟩
  have H1 := Lib.hid (And.intro hk1 hb)
  clear hk1 hb
  cases b
  · go_wp2_with fail
    go_ret
    exact ⟨rfl, H1.out.1⟩
  · have er1 := HA.out.2.2.1.keep H1.out.1
    have HW := Lib.hid (awake_any w1 er1)
    by_cases c1 : most < 1
    · go_wp2_with fail
      refine HW.out.mono ?_
      rintro e w2 ⟨rfl, hk2⟩
      have H2 := Lib.hid hk2
      clear hk2
      go_wp2_with fail
      go_ret
      exact ⟨rfl, H1.out.1.none_trans H2.out⟩
    · by_cases c2 : 100 < most
      · go_wp2_with fail
        refine HW.out.mono ?_
        rintro e w2 ⟨rfl, hk2⟩
        have H2 := Lib.hid hk2
        clear hk2
        go_wp2_with fail
        go_ret
        exact ⟨rfl, H1.out.1.none_trans H2.out⟩
      · obtain ⟨mp, rfl⟩ : ∃ mp : Nat, most = (mp : Int) := ⟨most.toNat, by omega⟩
        have HS := Lib.hid (stores_any A ss c w1 (HA.out.1.keep H1.out.1 (fun _ _ _ h => h)) (fun sv hsv => (HA.out.2.1 sv hsv).keep H1.out.1) (fun sv hsv => (H1.out.2 (by trivial)).2 sv hsv) hn)
        have HE := Lib.hid er1
        clear er1
        go_wp2_with fail
        refine HS.out.mono ?_
        rintro e w2 ⟨b, rfl, hk2, hb⟩
        have H2 := Lib.hid (And.intro hk2 hb)
        clear hk2 hb
        cases b
        · have er2 := HE.out.keep H2.out.1
          have HW := Lib.hid (awake_any w2 er2)
          clear er2
          go_wp2_with fail
          refine HW.out.mono ?_
          rintro e w3 ⟨rfl, hk3⟩
          have H3 := Lib.hid hk3
          clear hk3
          go_wp2_with fail
          go_ret
          exact ⟨rfl, (H1.out.1.none_trans H2.out.1).none_trans H3.out⟩
        · have hb := H2.out.2 (by trivial)
          have S2 := scr_of ((HA.out.1.keep H1.out.1 (fun _ _ _ h => h)).keep H2.out.1 (fun _ _ _ h => h)) hc hb.1 (fun sv hsv => ((HA.out.2.1 sv hsv).keep H1.out.1).keep H2.out.1) hb.2
          have hm1 : 0 < mp := by omega
          have hm2 : mp ≤ 100 := by omega
          have hl24 := hb.1
          have HT := Lib.hid (And.intro S2 (And.intro (HE.out.keep H2.out.1) (H1.out.1.none_trans H2.out.1)))
          have hi30 : (Tryz.prog.info? 30).map (·.size) = some 10 := by kernel_rfl
          have hheld0 := Lib.hid (fun w' (hk : Keep NoB w2 w') => held_all (HT.out.2.1.keep hk) (HT.out.1.keep hk))
          have hheld1 := Lib.hid (fun w' (hk : Keep NoB w2 w') => held_last (HT.out.2.1.keep hk) (HT.out.1.keep hk) mp hm1 hm2)
          clear hb S2 HA H1 H2 HS HE HW
          go_wp2_with fail
          refine (hheld0.out _ (Keep.refl _ _)).mono ?_
          intro e w4 hh
          obtain ⟨CS, A0, c0, cs0, rfl, ⟨hsz, hone⟩, hc0, hr0, hM0, hk4⟩ := hh.as (numL_length ss)
          have H4 := Lib.hid (And.intro hsz (And.intro hone (And.intro hr0 (And.intro hM0 hk4))))
          clear hh hsz hone hr0 hM0 hk4
          go_wp2_with (first
            | (refine wpList_store_blk (Blk.new w4 30 zSta) CS (by rw [H4.out.1]; rfl) (by rw [H4.out.1]; exact hi30) H4.out.2.1 rfl (.tmp 5) (.tmp 34) rfl (by rfl) (by rfl) ?_; intro w5 hb5 hk5; have H5 := Lib.hid (((Keep.refl NoB w4).alloc (.cells zSta 30)).own hk5 (fun k e => by omega)); clear hb5 hk5)
            | fail)
          have K5 := Lib.hid (H4.out.2.2.2.2.none_trans H5.out)
          refine (hheld1.out _ K5.out).mono ?_
          intro e w6 hh
          obtain ⟨CS', A1, c1', cs1, rfl, ⟨hsz, hone⟩, hc1, hr1, hM1, hk6⟩ := hh.as rfl
          have H6 := Lib.hid (And.intro hsz (And.intro hone (And.intro hr1 (And.intro hM1 (And.intro (K5.out.none_trans hk6) (H5.out.none_trans hk6))))))
          clear hh hsz hone hr1 hM1 hk6
          go_wp2_with (first
            | (refine wpList_store_blk (Blk.new w6 30 zSta) CS' (by rw [H6.out.1]; rfl) (by rw [H6.out.1]; exact hi30) H6.out.2.1 rfl (.tmp 8) (.tmp 42) rfl (by rfl) (by rfl) ?_; intro w7 hb7 hk7; have H7 := Lib.hid (((Keep.refl NoB w6).alloc (.cells zSta 30)).own hk7 (fun k e => by omega)); clear hb7 hk7)
            | fail)
          have HM0 := Lib.hid (And.intro (H4.out.2.2.1.keep (H6.out.2.2.2.2.2.none_trans H7.out) (fun _ _ _ h => h)) (H4.out.2.2.2.1.keep (H6.out.2.2.2.2.2.none_trans H7.out)))
          have HM1 := Lib.hid (And.intro (H6.out.2.2.1.keep H7.out (fun _ _ _ h => h)) (H6.out.2.2.2.1.keep H7.out))
          have K7 := Lib.hid (H6.out.2.2.2.2.1.none_trans H7.out)
          have h24 : (numL ss).length ≤ 24 := by rw [numL_length]; exact hl24
          obtain ⟨i39, z39, hi39, hz39, hsz39, hzs39, hby39, hf39⟩ := info39
          have hsm39 : ¬ 1 * i39.size > 2 ^ 24 := by rw [hsz39]; decide
          have hps39 : ¬ 1 * i39.size = 0 := by rw [hsz39]; decide
          have hi39s : (Tryz.prog.info? 39).map (·.size) = some 5 := by kernel_rfl
          have hN : (ss.length : Int) ≤ 24 := by omega
          have hcs0 : cs0.length = ss.length := by rw [HM0.out.2.1, numL_length]
          have el := fun {W : World} (hk : Keep NoB w7 W) {j : Nat} {mc : MC} (hj : cs0[j]? = some mc) => (HM0.out.1.keep hk (fun _ _ _ h => h)).elem (f := MC.cells) (fun _ => rfl) (by decide) hj
          have gt : ∀ j, j < ss.length → ∃ (mc : MC) (x : Nat × Rec), cs0[j]? = some mc ∧ (numL ss)[j]? = some x ∧ MsgV w7 mc.cells x.1 x.2 ∧ x.2.Ok ∧ mc.m0 = str x.2.subj ∧ ∀ u ∈ mc.cells, u.oneCell' = true := by
            intro j hj
            have h1 : cs0[j]? = some (cs0[j]'(by rw [hcs0]; exact hj)) := List.getElem?_eq_getElem _
            have h2 : (numL ss)[j]? = some ((numL ss)[j]'(by rw [numL_length]; exact hj)) := List.getElem?_eq_getElem _
            generalize (cs0[j]'(by rw [hcs0]; exact hj)) = mc at h1
            generalize ((numL ss)[j]'(by rw [numL_length]; exact hj)) = x at h2
            obtain ⟨hmv, hok⟩ := HM0.out.2.2 j mc x h1 h2
            obtain ⟨B1, d1, B2, d2, e, _⟩ := id hmv
            refine ⟨mc, x, h1, h2, hmv, hok, by have := congrArg (·[0]?) e; simpa using this, fun u hu => ?_⟩
            rw [e] at hu
            simp only [List.mem_cons, List.not_mem_nil, or_false] at hu
            rcases hu with rfl | rfl | rfl | rfl | rfl <;> rfl
          have HGT := Lib.hid gt
          have HEL := Lib.hid (And.intro (fun (W : World) (hk : Keep NoB w7 W) (j : Nat) (mc : MC) (hj : cs0[j]? = some mc) => el hk hj) trivial)
          clear gt el
          go_loopw [11, 12] (fun v11 v12 wr => ∃ (i : Nat) (W : List MC) (L : List (Nat × Rec)), v12 = .int .i64 (i : Int) ∧ i ≤ ss.length ∧ wr.ownsRow w7.heap.size 39 5 v11 L.length (W.flatMap MC.cells) ∧ MsgL wr W L ∧ L ++ keepLast mp ((numL ss).drop i) = keepLast mp (numL ss) ∧ L.length ≤ i ∧ Keep NoB w7 wr) (fun _ v12 _ => ss.length - (intOf v12).toNat)
          case atStart => exact ⟨0, [], [], rfl, Nat.zero_le _, World.ownsRow_nil _ _ _ _, ⟨rfl, fun j d y h => by simp at h⟩, by simp, Nat.le_refl _, Keep.refl _ _⟩
          case round =>
            obtain ⟨i, W, L, rfl, hi, hrow, hM, hL, hLi, hk⟩ := hrel
            have g0 : (0 : Int) ≤ (i : Int) := Int.natCast_nonneg _
            by_cases hlt : i < ss.length
            · have g1 : (i : Int) < (ss.length : Int) := by omega
              obtain ⟨mi, xi, hmi, hxi, hmvi, hoki, hm0i, hone⟩ := HGT.out i hlt
              obtain ⟨b, o, rfl, hri⟩ := HEL.out.1 wr hk i mi hmi
              have HX := Lib.hid (And.intro hrow (And.intro hM (And.intro hL (And.intro hk (And.intro hmvi (And.intro hoki (And.intro hone hxi)))))))
              clear hrow hM hL hmvi hoki hone
              have hm0i' := Lib.hid (And.intro hm0i hri)
              clear hm0i hri hmi
              go_wp2_with fail
              go_loopw [13, 14] (fun v13 v14 wq => ∃ (j q lt : Nat), v14 = .int .i64 (j : Int) ∧ i + 1 ≤ j ∧ j ≤ ss.length ∧ v13 = .int .i64 (lt : Int) ∧ lt = later (numL ss) xi.2.subj i j ∧ wq = wr.drewN q) (fun _ v14 _ => ss.length - (intOf v14).toNat)
              case atStart => exact ⟨i + 1, 0, 0, by go_num, Nat.le_refl _, by omega, rfl, (later_start _ _ _).symm, rfl⟩
              case round =>
                obtain ⟨j, q, lt, rfl, hij, hj, rfl, hlt0, rfl⟩ := hrel
                have hl24 := @later_le (numL ss) xi.2.subj i j
                rw [← hlt0] at hl24
                have hkq := HX.out.2.2.2.1.drewN q
                have p0 : (0 : Int) ≤ (j : Int) := Int.natCast_nonneg _
                have p1 : (0 : Int) ≤ (lt : Int) := Int.natCast_nonneg _
                have p2 : (lt : Int) ≤ 24 := by omega
                by_cases hjl : j < ss.length
                · have p3 : (j : Int) < (ss.length : Int) := by omega
                  obtain ⟨mj, xj, hmj, hxj, _, _, hm0j, _⟩ := HGT.out j hjl
                  obtain ⟨b', o', he, hrj⟩ := HEL.out.1 _ hkq j mj hmj
                  injection he with he; injection he with hb ho
                  subst hb; subst ho
                  have zj := hrj 0 _ rfl
                  rw [hm0j, Nat.add_zero, World.cell?_drewN] at zj
                  have zi := hm0i'.out.2 0 _ rfl
                  rw [hm0i'.out.1, Nat.add_zero] at zi
                  have hstep := later_step (s := xi.2.subj) hxj hij
                  rw [← hlt0] at hstep
                  have HK := Lib.hid (And.intro hkq hlt0)
                  clear hrj hkq hlt0 hmj hm0j hxj
                  by_cases hs : xj.2.subj = xi.2.subj
                  · rw [if_pos hs] at hstep
                    have HST := Lib.hid hstep
                    have hs' : (xj.2.subj == xi.2.subj) = true := by simpa using hs
                    rw [hs] at zj
                    clear hstep hs hs'
                    go_wp2_with fail
                    go_quiet (fail)
                    go_wp2_with fail
                    exact ⟨⟨j + 1, _, lt + 1, by go_num, by omega, by omega, by go_num, HST.out.symm, rfl⟩, by simp [intOf]; omega⟩
                  · rw [if_neg hs, Nat.add_zero] at hstep
                    have HST := Lib.hid hstep
                    have hs' : (xj.2.subj == xi.2.subj) = false := by simpa using hs
                    clear hstep
                    go_wp2_with fail
                    go_quiet (fail)
                    go_wp2_with fail
                    exact ⟨⟨j + 1, _, lt, by go_num, by omega, by omega, rfl, HST.out.symm, rfl⟩, by simp [intOf]; omega⟩
                · obtain rfl : j = ss.length := by omega
                  have hks := keep_step HX.out.2.2.2.2.2.2.2 HX.out.2.2.1
                  rw [numL_length, ← hlt0] at hks
                  have hdw := fun (X : World) => (Keep.refl NoB X).drewN q
                  have HRI := Lib.hid (And.intro (ownsRow_keep HX.out.1 (hdw _) (fun _ _ _ h => h)) (And.intro (HX.out.2.1.keep (hdw _)) (And.intro (HX.out.2.2.2.2.1.keep (HX.out.2.2.2.1.drewN q)) (And.intro hkq (And.intro hks (fun j v hv => by rw [World.cell?_drewN]; exact hm0i'.out.2 j v hv : (World.drewN _ q).rangeAt b (o + i * 5) mi.cells))))))
                  have hLb : L.length ≤ 1000 := by omega
                  clear hkq hks hdw
                  by_cases hlm : lt < mp
                  · have p3 : (lt : Int) < (mp : Int) := by omega
                    go_wp2_with (first
                      | (refine wpList_load_mid rfl 39 (.tmp 78) rfl b (o + i * 5) rfl mi.cells _ HRI.out.2.2.2.2.2 Tryz.underlying39 rfl hi39s ?_)
                      | (refine wpList_build1 Tryz.underlying31 hi39 hz39 hsm39 hps39 rfl (.tmp 79) rfl mi.cells.toArray (.agg mi.cells.toArray) (by rfl) (hf39 mi) ?_; intro w11 hb11 hk11; have HB11 := Lib.hid (And.intro hb11 hk11); clear hb11 hk11)
                      | (at_builtin; have hh := @wpList_append_gen 31 39 5 i39 z39 Tryz.underlying31 hi39 hz39 hsz39 hzs39 (by decide) hby39; refine hh rfl (.tmp 75) (.tmp 80) rfl w7.heap.size _ L.length (W.flatMap MC.cells) (some ⟨_, 0, none⟩) 1 1 mi.cells (by rfl) (by rfl) (ownsRow_keep HRI.out.1 HB11.out.2 (fun _ _ _ h => h)) (HB11.out.1.row1 rfl) HX.out.2.2.2.2.2.2.1 (Nat.le_trans HRI.out.2.2.2.1.size HB11.out.2.size) (by omega) ?_; intro v12 w12 hr12 hg12; have H12 := Lib.hid (And.intro hr12 hg12); clear hr12 hg12)
                      | fail)
                    obtain ⟨hrow, hM, hmv, hk, hks, _⟩ := HRI.out
                    have hrow' := ownsRow_keep hrow HB11.out.2 (fun _ _ _ h => h)
                    have hkg : Keep (fun k => some k = Value.ownBlock _) w11 w12 := Keep.of_grown H12.out.2
                    have hfar : ∀ k, k < w11.heap.size → some k = Value.ownBlock _ → ∃ t C, Blk w11 k t C ∧ t ≠ 5 := fun k _ e => by obtain ⟨C, hC⟩ := own_ty hrow' k e; exact ⟨39, C, hC, by decide⟩
                    rw [if_pos hlm] at hks
                    refine ⟨⟨i + 1, W ++ [mi], L ++ [xi], by go_num, by omega, ?_, MsgL.snoc ((hM.keep HB11.out.2).far hkg hfar) ((hmv.keep HB11.out.2).far hkg hfar) HX.out.2.2.2.2.2.1, hks, by simp; omega, (hk.none_trans HB11.out.2).own hkg (fun k e => own_ge hrow k e)⟩, by simp [intOf]; omega⟩
                    rw [List.length_append, List.flatMap_append]
                    simpa using H12.out.1
                  · have p3 : ¬ (lt : Int) < (mp : Int) := by omega
                    go_wp2_with fail
                    obtain ⟨hrow, hM, hmv, hk, hks, _⟩ := HRI.out
                    rw [if_neg hlm] at hks
                    exact ⟨⟨i + 1, W, L, by go_num, by omega, hrow, hM, hks, by omega, hk⟩, by simp [intOf]; omega⟩
            · obtain rfl : i = ss.length := by omega
              rw [List.drop_eq_nil_of_le (by rw [numL_length]; exact Nat.le_refl _)] at hL
              have hL2 : L = keepLast mp (numL ss) := by simpa [keepLast] using hL
              subst hL2
              obtain ⟨A3, c3, rfl, hc3, _, hr3, hbk3⟩ := ownsRow_row hrow
              have hsm := sameMsgs_eq A1 A3 c1' c3 cs1 W (keepLast mp (numL ss)) wr (HM1.out.1.keep hk (fun _ _ _ h => h)) hr3 (HM1.out.2.keep hk) hM (by have := (keepLast_sub mp (numL ss)).length_le; omega)
              have HSM := Lib.hid (And.intro hsm hk)
              clear hsm hrow hM hk hr3 hbk3
              go_wp2_with fail
              refine HSM.out.1.mono ?_
              rintro e w9 ⟨rfl, hk9⟩
              have kall := ((K7.out.none_trans HSM.out.2).none_trans hk9)
              have HW := Lib.hid (And.intro (awake_any w9 (HT.out.2.1.keep kall)) kall)
              clear hk9 kall
              go_wp2_with fail
              refine HW.out.1.mono ?_
              rintro e w10 ⟨rfl, hk10⟩
              have H10 := Lib.hid hk10
              clear hk10
              go_wp2_with fail
              go_ret
              exact ⟨rfl, (HT.out.2.2.none_trans HW.out.2).none_trans H10.out⟩

end Go.Proofs.YtmblkpjnafgplaaGreatDoor
