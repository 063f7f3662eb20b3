/- FnStoreFirsts: what it calls, at a script of messages alone; the walk. -/
import Derived.Test.YtmblkpjnafgplaaGreatDoorRQm
import Derived.Test.YtmblkpjnafgplaaGreatDoorRQj
namespace Go.Proofs.YtmblkpjnafgplaaGreatDoor
open Go Go.RowKit
set_option maxRecDepth 100000
set_option linter.unusedVariables false
set_option linter.unusedSimpArgs false

/-- a script of messages alone, in memory -/
structure Scr (w : World) (A : Option Addr) (ss : List StepV) (c : Nat) : Prop where
  row : RowAt w 16 A ss.length (ss.flatMap StepV.cells)
  cap : ss.length ≤ c
  few : ss.length ≤ 24
  ok : ∀ sv ∈ ss, StepOk w sv
  op : ∀ sv ∈ ss, sv.op = 0
  rc : ∀ sv ∈ ss, sv.rc.Ok

theorem Scr.keep {w w' : World} {A : Option Addr} {ss : List StepV} {c : Nat} (h : Scr w A ss c) (hk : Keep NoB w w') : Scr w' A ss c :=
  ⟨h.row.keep hk (fun _ _ _ h => h), h.cap, h.few, fun sv hsv => (h.ok sv hsv).keep hk, h.op, h.rc⟩

theorem rc_ok {sv : StepV} (h : OkS sv) : sv.rc.Ok := ⟨h.2.2.1, h.2.2.2.1, h.2.2.2.2, Nat.le_trans h.1 (by decide), Nat.le_trans h.2.1 (by decide)⟩

theorem scr_of {w : World} {A : Option Addr} {ss : List StepV} {c : Nat} (h1 : RowAt w 16 A ss.length (ss.flatMap StepV.cells)) (h2 : ss.length ≤ c) (h3 : ss.length ≤ 24) (h4 : ∀ sv ∈ ss, StepIn w sv) (h5 : ∀ sv ∈ ss, sv.op = 0 ∧ OkS sv) : Scr w A ss c :=
  ⟨h1, h2, h3, fun sv hsv => .inl ⟨(h5 sv hsv).1, rc_ok (h5 sv hsv).2, (h4 sv hsv).1, (h4 sv hsv).2.1⟩, fun sv hsv => (h5 sv hsv).1, fun sv hsv => rc_ok (h5 sv hsv).2⟩

theorem numL_ok {ss : List StepV} (h : ∀ sv ∈ ss, sv.rc.Ok) : ∀ x ∈ numL ss, x.2.Ok := fun x hx => by
  obtain ⟨_, _, s, hs, e⟩ := numL_mem hx
  rw [← e]; exact h s hs

theorem held_all {w : World} {A : Option Addr} {ss : List StepV} {c : Nat} (er : Errs w) (S : Scr w A ss c) : Calls Tryz.prog 8 #[.agg (cfgC 0 0 false).toArray, .slice A ss.length c] w (HPost w (numL ss)) := by
  have ha := runA_deeds 0 0 ss S.op
  rw [if_neg (by decide), if_neg (by decide)] at ha
  exact held_any rawLaw0 stLaw0 0 0 0 false rfl rfl (.inl rfl) (by decide) (by decide) (.inl ⟨rfl, rfl⟩) w er A ss c S.row S.ok S.op S.few ⟨0, 0, 0, ss.length, numL ss⟩ ha.symm (goodA_of rfl (List.Sublist.refl _)) S.few (numL_ok S.rc)

theorem held_first {w : World} {A : Option Addr} {ss : List StepV} {c : Nat} (er : Errs w) (S : Scr w A ss c) (mm : Nat) (h0 : 0 < mm) (h1 : mm ≤ 100) : Calls Tryz.prog 8 #[.agg (cfgC mm 0 true).toArray, .slice A ss.length c] w (HPost w ((numL ss).take mm)) := by
  have ha := runA_deeds mm 1 ss S.op
  rw [if_pos rfl, if_pos rfl] at ha
  refine held_any rawLaw0 stLaw0 mm 0 1 true rfl rfl (.inl rfl) (by omega) (by decide) (.inr ⟨rfl, h0⟩) w er A ss c S.row S.ok S.op S.few ⟨mm, 0, 1, min mm ss.length, (numL ss).take mm⟩ ha.symm ?_ ?_ (fun x hx => numL_ok S.rc x (List.mem_of_mem_take hx))
  · refine ⟨(numL_srt ss).sublist ((List.take_sublist _ _).map _), fun x hx => ?_⟩
    have h2 := numL_mem (List.mem_of_mem_take hx)
    refine ⟨h2.1, ?_⟩
    obtain ⟨j, hj⟩ := List.getElem?_of_mem hx
    rw [List.getElem?_take] at hj
    split at hj
    · obtain ⟨s, hs⟩ : ∃ s, ss[j]? = some s := by
        have := (List.getElem?_eq_some_iff.1 hj).1
        rw [numL_length] at this
        exact ⟨ss[j], List.getElem?_eq_getElem this⟩
      rw [numL_get ss hs] at hj
      injection hj with hj
      have := (List.getElem?_eq_some_iff.1 hs).1
      subst hj
      simp only
      omega
    · cases hj
  · have := S.few
    simp only
    omega

theorem store_first {w : World} {A : Option Addr} {ss : List StepV} {c : Nat} (er : Errs w) (S : Scr w A ss c) (mm : Nat) (h0 : 0 < mm) (h1 : mm ≤ 100) : Calls Tryz.prog 9 #[.agg (cfgC mm 0 true).toArray, .slice A ss.length c] w (PPost w ⟨mm, 0, 1, 0, []⟩ ss) := by
  refine store_any rawLaw0 stLaw0 mm 0 1 true rfl rfl (.inl rfl) (by omega) (by decide) (.inr ⟨rfl, h0⟩) w er A ss c S.row S.cap S.ok (by have := S.few; omega) (fun p q s s' _ h1 _ _ => S.op s (List.mem_of_getElem? h1)) (fun j => ?_)
  have h1 := runA_n_le ⟨mm, 0, 1, 0, []⟩ (ss.take j)
  have h2 := List.length_filter_le (fun s : StepV => decide (s.op = 0)) (ss.take j)
  have h3 := S.few
  have h4 : (ss.take j).length ≤ ss.length := by rw [List.length_take]; omega
  simp only at h1
  omega

/-- of a list of messages the first ones -/
theorem row_take {w : World} {n k : Nat} {A : Option Addr} {l : List MC} (h : RowAt w 5 A n (l.flatMap MC.cells)) (hl : l.length = n) (hk : k ≤ n) : RowAt w 5 A k ((l.take k).flatMap MC.cells) := by
  have hlen : ∀ l : List MC, (l.flatMap MC.cells).length = l.length * 5 := by
    intro l
    induction l with
    | nil => simp
    | cons y t ih => rw [List.flatMap_cons, List.length_append, ih, show (y :: t).length = t.length + 1 from rfl, Nat.add_mul]; show 5 + _ = _; omega
  refine ⟨by rw [hlen, List.length_take, Nat.min_eq_left (by omega)], fun h0 => ?_⟩
  obtain ⟨ad, rfl, hs, hcell⟩ := h.2 (by omega)
  refine ⟨ad, rfl, hs, fun j u hu => hcell j u ?_⟩
  have e : l.flatMap MC.cells = (l.take k).flatMap MC.cells ++ (l.drop k).flatMap MC.cells := by rw [← List.flatMap_append, List.take_append_drop]
  rw [e, List.getElem?_append_left (List.getElem?_eq_some_iff.1 hu).1]
  exact hu

theorem MsgL.take {w : World} {cs : List MC} {l : List (Nat × Rec)} (h : MsgL w cs l) (k : Nat) : MsgL w (cs.take k) (l.take k) := by
  refine ⟨by simp [h.1], fun j d y hd hy => ?_⟩
  rw [List.getElem?_take] at hd hy
  split at hd
  · rename_i hj
    rw [if_pos hj] at hy
    exact h.2 j d y hd hy
  · cases hd

theorem same_first {w : World} {A1 A0 : Option Addr} {c1 c0 mm k : Nat} {cs1 cs0 : List MC} {ss : List StepV} (hk : k = min mm ss.length) (r1 : RowAt w 5 A1 k (cs1.flatMap MC.cells)) (m1 : MsgL w cs1 ((numL ss).take mm)) (r0 : RowAt w 5 A0 ss.length (cs0.flatMap MC.cells)) (m0 : MsgL w cs0 (numL ss)) (hl : ss.length ≤ 24) :
    Calls Tryz.prog 10 #[.slice A1 k c1, .slice A0 k c0] w fun e w' => e = .returned (.bool true) ∧ Keep NoB w w' := by
  have e1 : (numL ss).take mm = (numL ss).take k := by
    rcases Nat.le_total mm ss.length with h | h
    · rw [hk, Nat.min_eq_left h]
    · rw [hk, Nat.min_eq_right h, List.take_of_length_le (by rw [numL_length]; exact h), List.take_of_length_le (by rw [numL_length]; exact Nat.le_refl _)]
  have e2 : ((numL ss).take k).length = k := by rw [List.length_take, numL_length]; omega
  rw [e1] at m1
  have hlen : cs0.length = ss.length := by rw [m0.1, numL_length]
  have := sameMsgs_eq A1 A0 c1 c0 cs1 (cs0.take k) ((numL ss).take k) w (by rw [e2]; exact r1) (by rw [e2]; exact row_take r0 hlen (by omega)) m1 (m0.take k) (by omega)
  rw [e2] at this
  exact this

theorem told_k {w : World} {ss : List StepV} {mm j : Nat} {sv : StepV} {t : TellV} (hop : ∀ s ∈ ss, s.op = 0) (hj : ss[j]? = some sv) (h : Says w (runA ⟨mm, 0, 1, 0, []⟩ (ss.take j)) sv t) : t.k = if mm ≤ j then 1 else 0 := by
  have h1 := h.1 (hop sv (List.mem_of_getElem? hj))
  rw [runA_deeds mm 1 (ss.take j) (fun s hs => hop s (List.mem_of_mem_take hs)), if_pos rfl, if_pos rfl] at h1
  have hjl := (List.getElem?_eq_some_iff.1 hj).1
  have hlen : ((numL (ss.take j)).take mm).length = min mm j := by rw [List.length_take, numL_length, List.length_take, Nat.min_eq_left (Nat.le_of_lt hjl)]
  rw [h1]
  by_cases hm : mm ≤ j
  · rw [if_pos hm, if_pos ⟨rfl, by simp only; rw [hlen]; omega⟩]
  · rw [if_neg hm, if_neg (fun hx => by have := hx.2; simp only at this; rw [hlen] at this; omega)]

abbrev z27 : Array Value := #[.int .i64 0, .int .i64 0, .int .i64 0, .bool false, .bool false, .int .u64 0]

theorem HPost.as {w w' : World} {l : List (Nat × Rec)} {e : Ending} {n : Nat} (h : HPost w l e w') (hn : l.length = n) : ∃ (CS : Array Value) (A' : Option Addr) (c' : Nat) (cs : List MC), e = .returned (.tuple #[.agg CS, .slice A' n c', .bool true]) ∧ (CS.size = 10 ∧ CS.all (·.oneCell') = true) ∧ n ≤ c' ∧ RowAt w' 5 A' n (cs.flatMap MC.cells) ∧ MsgL w' cs l ∧ Keep NoB w w' := by
  subst hn; exact h

set_option maxHeartbeats 4000000 in
theorem firsts_any (w : World) (er : Errs w) (A : Option Addr) (ss : List StepV) (c : Nat) (most : Int) (hA : RowAt w 16 A ss.length (ss.flatMap StepV.cells)) (hc : ss.length ≤ c) (hin : ∀ sv ∈ ss, StepIn w sv) (hn : ss.length ≤ 9223372036854775807) :
    Calls Tryz.prog 3 #[.slice A ss.length c, .int .i64 most] w fun e w' => e = .returned (.bool true) ∧ Keep NoB w w' := by
  have HA := Lib.hid (And.intro hA (And.intro hin (And.intro er (zzFits8_any A ss c w hA hin hn))))
  clear hA hin er
  go_enter Tryz.func3, Tryz.ntmps3
  go_wp2_with fail
  refine HA.out.2.2.2.mono ?_
  rintro e w1 ⟨b, rfl, hk1, hb⟩
  have H1 := Lib.hid (And.intro hk1 hb)
  clear hk1 hb
  cases b
  · go_wp2_with fail
    go_ret
    exact ⟨rfl, H1.out.1⟩
  · have er1 := HA.out.2.2.1.keep H1.out.1
    have HW := Lib.hid (awake_any w1 er1)
    by_cases c1 : most < 1
    · go_wp2_with fail
      refine HW.out.mono ?_
      rintro e w2 ⟨rfl, hk2⟩
      have H2 := Lib.hid hk2
      clear hk2
      go_wp2_with fail
      go_ret
      exact ⟨rfl, H1.out.1.none_trans H2.out⟩
    · by_cases c2 : 100 < most
      · go_wp2_with fail
        refine HW.out.mono ?_
        rintro e w2 ⟨rfl, hk2⟩
        have H2 := Lib.hid hk2
        clear hk2
        go_wp2_with fail
        go_ret
        exact ⟨rfl, H1.out.1.none_trans H2.out⟩
      · obtain ⟨mm, rfl⟩ : ∃ mm : Nat, most = (mm : Int) := ⟨most.toNat, by omega⟩
        have HS := Lib.hid (stores_any A ss c w1 (HA.out.1.keep H1.out.1 (fun _ _ _ h => h)) (fun sv hsv => (HA.out.2.1 sv hsv).keep H1.out.1) (fun sv hsv => (H1.out.2 (by trivial)).2 sv hsv) hn)
        have HE := Lib.hid er1
        clear er1
        go_wp2_with fail
        refine HS.out.mono ?_
        rintro e w2 ⟨b, rfl, hk2, hb⟩
        have H2 := Lib.hid (And.intro hk2 hb)
        clear hk2 hb
        cases b
        · have er2 := HE.out.keep H2.out.1
          have HW := Lib.hid (awake_any w2 er2)
          clear er2
          go_wp2_with fail
          refine HW.out.mono ?_
          rintro e w3 ⟨rfl, hk3⟩
          have H3 := Lib.hid hk3
          clear hk3
          go_wp2_with fail
          go_ret
          exact ⟨rfl, (H1.out.1.none_trans H2.out.1).none_trans H3.out⟩
        · have hb := H2.out.2 (by trivial)
          have S2 := scr_of ((HA.out.1.keep H1.out.1 (fun _ _ _ h => h)).keep H2.out.1 (fun _ _ _ h => h)) hc hb.1 (fun sv hsv => ((HA.out.2.1 sv hsv).keep H1.out.1).keep H2.out.1) hb.2
          have hm1 : 0 < mm := by omega
          have hm2 : mm ≤ 100 := by omega
          have hl24 := hb.1
          have HT := Lib.hid (And.intro S2 (And.intro (HE.out.keep H2.out.1) (H1.out.1.none_trans H2.out.1)))
          have hi27 : (Tryz.prog.info? 27).map (·.size) = some 6 := by kernel_rfl
          have hi30 : (Tryz.prog.info? 30).map (·.size) = some 10 := by kernel_rfl
          clear hb S2 HA H1 H2 HS HE HW
          go_wp2_with fail
          have H3 := Lib.hid (And.intro (Blk.new w2 27 (cfgC mm 0 true).toArray) ((Keep.refl NoB w2).alloc (.cells (cfgC mm 0 true).toArray 27)))
          change Calls _ _ _ (w2.alloc (.cells (cfgC mm 0 true).toArray 27)) _
          generalize w2.alloc (.cells (cfgC mm 0 true).toArray 27) = w3 at H3 ⊢
          refine (held_all (HT.out.2.1.keep H3.out.2) (HT.out.1.keep H3.out.2)).mono ?_
          intro e w4 hh
          obtain ⟨CS, A0, c0, cs0, rfl, ⟨hsz, hone⟩, hc0, hr0, hM0, hk4⟩ := hh.as (numL_length ss)
          have H4 := Lib.hid (And.intro hsz (And.intro hone (And.intro hr0 (And.intro hM0 (H3.out.2.none_trans hk4)))))
          have HB4 := Lib.hid (hk4.blk H3.out.1 (fun h => h))
          clear hh hsz hone hr0 hM0 hk4
          go_wp2_with (first
            | (refine wpList_store_blk (Blk.new w4 30 zSta) CS (by rw [H4.out.1]; rfl) (by rw [H4.out.1]; exact hi30) H4.out.2.1 rfl (.tmp 6) (.tmp 35) rfl (by rfl) (by rfl) ?_; intro w5 hb5 hk5; have H5 := Lib.hid (((Keep.refl NoB w4).alloc (.cells zSta 30)).own hk5 (fun k e => by omega)); clear hb5 hk5)
            | (refine wpList_load_mid rfl 27 (.tmp 5) rfl w2.heap.size 0 rfl (cfgC mm 0 true) _ (H5.out.blk HB4.out (fun h => h)).rangeAt Tryz.underlying27 rfl hi27 ?_)
            | fail)
          have K5 := Lib.hid (H4.out.2.2.2.2.none_trans H5.out)
          refine (held_first (HT.out.2.1.keep K5.out) (HT.out.1.keep K5.out) mm hm1 hm2).mono ?_
          intro e w6 hh
          obtain ⟨CS', A1, c1', cs1, rfl, ⟨hsz, hone⟩, hc1, hr1, hM1, hk6⟩ := hh.as (show ((numL ss).take mm).length = min mm ss.length by rw [List.length_take, numL_length])
          have H6 := Lib.hid (And.intro hsz (And.intro hone (And.intro hr1 (And.intro hM1 (And.intro (K5.out.none_trans hk6) (H5.out.none_trans hk6))))))
          have HB6 := Lib.hid ((H5.out.none_trans hk6).blk HB4.out (fun h => h))
          clear hh hsz hone hr1 hM1 hk6 HB4
          go_wp2_with (first
            | (refine wpList_store_blk (Blk.new w6 30 zSta) CS' (by rw [H6.out.1]; rfl) (by rw [H6.out.1]; exact hi30) H6.out.2.1 rfl (.tmp 9) (.tmp 42) rfl (by rfl) (by rfl) ?_; intro w7 hb7 hk7; have H7 := Lib.hid (((Keep.refl NoB w6).alloc (.cells zSta 30)).own hk7 (fun k e => by omega)); clear hb7 hk7)
            | (refine wpList_load_mid rfl 27 (.tmp 5) rfl w2.heap.size 0 rfl (cfgC mm 0 true) _ (H7.out.blk HB6.out (fun h => h)).rangeAt Tryz.underlying27 rfl hi27 ?_)
            | fail)
          have K7 := Lib.hid (H6.out.2.2.2.2.1.none_trans H7.out)
          refine (store_first (HT.out.2.1.keep K7.out) (HT.out.1.keep K7.out) mm hm1 hm2).mono ?_
          rintro e w8 ⟨A2, c2', ts, rfl, hcap, hl, hr, hsay, _, hk8⟩
          have H8 := Lib.hid (And.intro hl (And.intro hr (And.intro hsay (K7.out.none_trans hk8))))
          have HM0 := Lib.hid (And.intro (H4.out.2.2.1.keep ((H6.out.2.2.2.2.2.none_trans H7.out).none_trans hk8) (fun _ _ _ h => h)) (H4.out.2.2.2.1.keep ((H6.out.2.2.2.2.2.none_trans H7.out).none_trans hk8)))
          have HM1 := Lib.hid (And.intro (H6.out.2.2.1.keep (H7.out.none_trans hk8) (fun _ _ _ h => h)) (H6.out.2.2.2.1.keep (H7.out.none_trans hk8)))
          clear hl hr hsay hk8 hcap H4 H6 HB6 K5 K7 H5 H7
          have hsm := same_first (c1 := c1') (c0 := c0) rfl HM1.out.1 HM1.out.2 HM0.out.1 HM0.out.2 hl24
          have HSM := Lib.hid hsm
          clear hsm HM0 HM1
          have htk : ∀ (j : Nat) (sv : StepV) (t : TellV), ss[j]? = some sv → ts[j]? = some t → t.k = if mm ≤ j then 1 else 0 := fun j sv t h1 h2 => told_k HT.out.1.op h1 (H8.out.2.2.1 j sv t h1 h2)
          have HTK := Lib.hid htk
          clear htk
          have hgoal : mm < ss.length ∨ ¬ mm < ss.length := by omega
          rcases hgoal with hmin | hmin
          · rw [Nat.min_eq_left (Nat.le_of_lt hmin)] at HSM ⊢
            have q1 : (mm : Int) < (ss.length : Int) := by omega
            have q0 : (0 : Int) ≤ (mm : Int) := by omega
            have q2 : (mm : Int) ≤ (c0 : Int) := by omega
            go_wp2_with fail
            refine HSM.out.mono ?_
            rintro e w9 ⟨rfl, hk9⟩
            have H9 := Lib.hid hk9
            clear hk9
            go_wp2_with fail
            go_loop [13] (fun i => ∃ j : Nat, i = .int .i64 (j : Int) ∧ j ≤ ss.length) (fun i => ss.length - (intOf i).toNat)
            case atStart => exact ⟨0, rfl, Nat.zero_le _⟩
            case round =>
              obtain ⟨j, rfl, hj⟩ := hrel
              by_cases hlt : j < ss.length
              · obtain ⟨sv, hsv⟩ : ∃ sv, ss[j]? = some sv := ⟨ss[j], List.getElem?_eq_getElem hlt⟩
                obtain ⟨t, ht⟩ : ∃ t, ts[j]? = some t := ⟨ts[j]'(by rw [H8.out.1]; exact hlt), List.getElem?_eq_getElem _⟩
                obtain ⟨b, o, rfl, hrt⟩ := (H8.out.2.1.keep H9.out (fun _ _ _ h => h)).elem (fun _ => rfl) (by decide) ht
                have x0 : w9.cell? ⟨b, o + j * 22, none⟩ = some (.int .i64 t.k) := by simpa using hrt 0 _ rfl
                have hkt := HTK.out j sv t hsv ht
                clear hrt hsv ht
                have g0 : (0 : Int) ≤ (j : Int) := Int.natCast_nonneg _
                have g1 : (j : Int) < (ss.length : Int) := by omega
                by_cases hjm : mm ≤ j
                · rw [if_pos hjm] at hkt
                  rw [hkt] at x0
                  have g2 : ¬ (j : Int) < (mm : Int) := by omega
                  clear hkt
                  go_wp2_with fail
                  exact ⟨⟨j + 1, by go_num, by omega⟩, by simp [intOf]; omega⟩
                · rw [if_neg hjm] at hkt
                  rw [hkt] at x0
                  have g2 : (j : Int) < (mm : Int) := by omega
                  clear hkt
                  go_wp2_with fail
                  exact ⟨⟨j + 1, by go_num, by omega⟩, by simp [intOf]; omega⟩
              · have hk9 := H8.out.2.2.2.none_trans H9.out
                have HW := Lib.hid (awake_any w9 (HT.out.2.1.keep hk9))
                clear hk9
                go_wp2_with fail
                refine HW.out.mono ?_
                rintro e w10 ⟨rfl, hk10⟩
                have H10 := Lib.hid hk10
                clear hk10
                go_wp2_with fail
                go_ret
                exact ⟨rfl, ((HT.out.2.2.none_trans H8.out.2.2.2).none_trans H9.out).none_trans H10.out⟩
          · rw [Nat.min_eq_right (by omega)] at HSM ⊢
            have q1 : ¬ (mm : Int) < (ss.length : Int) := by omega
            have q2 : (ss.length : Int) ≤ (c0 : Int) := by omega
            go_wp2_with fail
            refine HSM.out.mono ?_
            rintro e w9 ⟨rfl, hk9⟩
            have H9 := Lib.hid hk9
            clear hk9
            go_wp2_with fail
            go_loop [13] (fun i => ∃ j : Nat, i = .int .i64 (j : Int) ∧ j ≤ ss.length) (fun i => ss.length - (intOf i).toNat)
            case atStart => exact ⟨0, rfl, Nat.zero_le _⟩
            case round =>
              obtain ⟨j, rfl, hj⟩ := hrel
              by_cases hlt : j < ss.length
              · obtain ⟨sv, hsv⟩ : ∃ sv, ss[j]? = some sv := ⟨ss[j], List.getElem?_eq_getElem hlt⟩
                obtain ⟨t, ht⟩ : ∃ t, ts[j]? = some t := ⟨ts[j]'(by rw [H8.out.1]; exact hlt), List.getElem?_eq_getElem _⟩
                obtain ⟨b, o, rfl, hrt⟩ := (H8.out.2.1.keep H9.out (fun _ _ _ h => h)).elem (fun _ => rfl) (by decide) ht
                have x0 : w9.cell? ⟨b, o + j * 22, none⟩ = some (.int .i64 t.k) := by simpa using hrt 0 _ rfl
                have hkt := HTK.out j sv t hsv ht
                clear hrt hsv ht
                have g0 : (0 : Int) ≤ (j : Int) := Int.natCast_nonneg _
                have g1 : (j : Int) < (ss.length : Int) := by omega
                by_cases hjm : mm ≤ j
                · exfalso; omega
                · rw [if_neg hjm] at hkt
                  rw [hkt] at x0
                  have g2 : (j : Int) < (mm : Int) := by omega
                  clear hkt
                  go_wp2_with fail
                  exact ⟨⟨j + 1, by go_num, by omega⟩, by simp [intOf]; omega⟩
              · have hk9 := H8.out.2.2.2.none_trans H9.out
                have HW := Lib.hid (awake_any w9 (HT.out.2.1.keep hk9))
                clear hk9
                go_wp2_with fail
                refine HW.out.mono ?_
                rintro e w10 ⟨rfl, hk10⟩
                have H10 := Lib.hid hk10
                clear hk10
                go_wp2_with fail
                go_ret
                exact ⟨rfl, ((HT.out.2.2.none_trans H8.out.2.2.2).none_trans H9.out).none_trans H10.out⟩

end Go.Proofs.YtmblkpjnafgplaaGreatDoor
