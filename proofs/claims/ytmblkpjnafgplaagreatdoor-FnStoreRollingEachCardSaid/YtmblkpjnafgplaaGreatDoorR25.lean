/- zzFits9, zzFits8. zzFits8. -/
import Derived.Test.YtmblkpjnafgplaaGreatDoorR20
import Derived.Test.YtmblkpjnafgplaaGreatDoorRQb
namespace Go.Proofs.YtmblkpjnafgplaaGreatDoor
open Go Go.RowKit
set_option maxRecDepth 100000
set_option linter.unusedVariables false
set_option linter.unusedSimpArgs false

/-- what is read of a step that came in -/
def StepIn (w : World) (sv : StepV) : Prop :=
  RowAt w 1 sv.hA sv.hdr.length (sv.hdr.map byteV) ∧ RowAt w 1 sv.dA sv.dat.length (sv.dat.map byteV) ∧ (∃ ss : List Bs, RowAt w 1 sv.sA sv.sn (ss.map str)) ∧ sv.sn ≤ 9223372036854775807 ∧ sv.hdr.length ≤ 9223372036854775807 ∧ sv.dat.length ≤ 9223372036854775807 ∧ sv.subj.length ≤ 9223372036854775807

theorem StepIn.keep {w w' : World} {sv : StepV} (h : StepIn w sv) (hk : Keep NoB w w') : StepIn w' sv := by
  obtain ⟨h1, h2, ⟨ss, h3⟩, h4⟩ := h
  exact ⟨h1.keep hk (fun _ _ _ h => h), h2.keep hk (fun _ _ _ h => h), ⟨ss, h3.keep hk (fun _ _ _ h => h)⟩, h4⟩

def FitP (Q : Prop) (w : World) (e : Ending) (w' : World) : Prop := ∃ b, e = .returned (.bool b) ∧ Keep NoB w w' ∧ (b = true → Q)

set_option maxHeartbeats 4000000 in
theorem zzFits9_any (sv : StepV) (w : World) (h : StepIn w sv) : Calls Tryz.prog 11 #[.agg sv.cells.toArray] w (FitP (sv.subj.length ≤ 2147483647) w) := by
  obtain ⟨op, subj, hA, hdr, hc, dA, dat, dc, t, seq, num, kp, last, sA, sn, sc, q0, q1, q2, q3, q4, q5⟩ := sv
  obtain ⟨h1, h2, ⟨ss, h3⟩, h4, h5, h6, h7⟩ := h
  simp only at h1 h2 h3 h4 h5 h6 h7
  have hkw := (Keep.refl NoB w).alloc (.cells #[.int .i64 op, str subj, .slice hA hdr.length hc, .slice dA dat.length dc, .int .i64 t, .int .u64 seq, .int .u64 num, .int .u64 kp, .bool last, .slice sA sn sc, .int .i64 q0, .int .i64 q1, .int .i64 q2, .bool q3, .bool q4, .int .u64 q5] 46)
  have h20 := zzFits2_any sA sn sc ss _ (h3.keep hkw (fun _ _ _ h => h)) h4
  have HH := Lib.hid (And.intro h20 hkw)
  have hlb : ByteArray.size ⟨subj.toArray⟩ = subj.length := by simp [ByteArray.size]
  clear h1 h2 h3 h20 hkw
  by_cases c1 : subj.length ≤ 2147483647
  · by_cases c2 : hdr.length ≤ 2147483647
    · by_cases c3 : dat.length ≤ 2147483647
      · go_enter Tryz.func11, Tryz.ntmps11
        go_wp2_with fail
        refine HH.out.1.mono ?_
        rintro e w1 ⟨b, rfl, rfl⟩
        cases b
        · go_wp2_with fail
          go_ret
          exact ⟨false, rfl, HH.out.2, fun h => by cases h⟩
        · go_wp2_with fail
          go_ret
          exact ⟨true, rfl, HH.out.2, fun _ => c1⟩
      · go_enter Tryz.func11, Tryz.ntmps11
        go_wp2_with fail
        go_ret
        exact ⟨false, rfl, HH.out.2, fun h => by cases h⟩
    · go_enter Tryz.func11, Tryz.ntmps11
      go_wp2_with fail
      go_ret
      exact ⟨false, rfl, HH.out.2, fun h => by cases h⟩
  · go_enter Tryz.func11, Tryz.ntmps11
    go_wp2_with fail
    go_ret
    exact ⟨false, rfl, HH.out.2, fun h => by cases h⟩

end Go.Proofs.YtmblkpjnafgplaaGreatDoor

namespace Go.Proofs.YtmblkpjnafgplaaGreatDoor
open Go Go.RowKit
set_option maxRecDepth 100000
set_option linter.unusedVariables false
set_option linter.unusedSimpArgs false

abbrev zStep : Array Value := #[.int .i64 0, .string ⟨#[]⟩, .slice none 0 0, .slice none 0 0, .int .i64 0, .int .u64 0, .int .u64 0, .int .u64 0, .bool false, .slice none 0 0, .int .i64 0, .int .i64 0, .int .i64 0, .bool false, .bool false, .int .u64 0]

theorem step_plain (sv : StepV) : sv.cells.toArray.all (·.oneCell') = true := all_oneCell_toArray (by
  intro v hv
  simp only [List.mem_cons, List.not_mem_nil, or_false] at hv
  rcases hv with rfl | rfl | rfl | rfl | rfl | rfl | rfl | rfl | rfl | rfl | rfl | rfl | rfl | rfl | rfl | rfl
  all_goals rfl)

/-- a step's copy in a block of its own -/
theorem step_box (wr : World) (CS : Array Value) (hz : CS.size = 16) : (wr.alloc (.cells zStep 46)).there wr.heap.size 0 CS.size ∧ Blk ((wr.alloc (.cells zStep 46)).setCells wr.heap.size 0 CS.toList) wr.heap.size 46 CS ∧ Keep NoB wr ((wr.alloc (.cells zStep 46)).setCells wr.heap.size 0 CS.toList) := by
  have hb := Blk.new wr 46 zStep
  refine ⟨by rw [hz]; exact hb.there, by simpa using hb.setCells_whole CS.toList (by simpa using hz), ?_⟩
  exact ((Keep.refl NoB wr).alloc _).own (F := fun k => k = wr.heap.size) (Keep.setCells (F := fun k => k = wr.heap.size) (fun _ => rfl) _ 0 _ (Keep.refl _ _)) (fun k e => by omega)

theorem zzFits9_cs (sv : StepV) (CS : Array Value) (hCS : CS = sv.cells.toArray) (w : World) (h : StepIn w sv) : Calls Tryz.prog 11 #[.agg CS] w (FitP (sv.subj.length ≤ 2147483647) w) := by
  subst hCS; exact zzFits9_any sv w h

set_option maxHeartbeats 2000000 in
theorem zzFits8_any (A : Option Addr) (ss : List StepV) (c : Nat) (w : World) (hA : RowAt w 16 A ss.length (ss.flatMap StepV.cells)) (hin : ∀ sv ∈ ss, StepIn w sv) (hn : ss.length ≤ 9223372036854775807) :
    Calls Tryz.prog 5 #[.slice A ss.length c] w (FitP (ss.length ≤ 2147483647 ∧ ∀ sv ∈ ss, sv.subj.length ≤ 2147483647) w) := by
  have HA := Lib.hid (And.intro hA hin)
  have hi46 : (Tryz.prog.info? 46).map (·.size) = some 16 := by kernel_rfl
  clear hA hin
  by_cases hb : ss.length ≤ 2147483647
  · go_enter Tryz.func5, Tryz.ntmps5
    go_wp2_with fail
    go_loopw [4, 10] (fun v i wr => ∃ j : Nat, i = .int .i64 (j : Int) ∧ j ≤ ss.length ∧ Keep NoB w wr ∧ ∀ q sv, q < j → ss[q]? = some sv → sv.subj.length ≤ 2147483647) (fun _ i _ => ss.length - (intOf i).toNat)
    case atStart => exact ⟨0, rfl, Nat.zero_le _, Keep.refl _ _, fun q sv h => by omega⟩
    case round =>
      obtain ⟨j, rfl, hj, hk, hq⟩ := hrel
      have HK := Lib.hid (And.intro hk hq)
      clear hk hq
      by_cases hlt : j < ss.length
      · obtain ⟨sv, hsv⟩ : ∃ sv, ss[j]? = some sv := ⟨ss[j], List.getElem?_eq_getElem hlt⟩
        obtain ⟨b, o, rfl, hr⟩ := (HA.out.1.keep HK.out.1 (fun _ _ _ h => h)).elem (fun _ => rfl) (by decide) hsv
        obtain ⟨CS, hCS⟩ : ∃ CS, CS = sv.cells.toArray := ⟨_, rfl⟩
        have hsz : CS.size = 16 := by rw [hCS]; rfl
        have hr' : wr.rangeAt b (o + j * 16) CS.toList := by rw [hCS]; exact hr
        obtain ⟨b1, b2, b3⟩ := step_box wr CS hsz
        have hone : CS.all (·.oneCell') = true := by rw [hCS]; exact step_plain sv
        have hcall := zzFits9_cs sv CS hCS ((wr.alloc (.cells zStep 46)).setCells wr.heap.size 0 CS.toList) (((HA.out.2 sv (List.mem_of_getElem? hsv)).keep HK.out.1).keep b3)
        have hi1 : (Tryz.prog.info? 46).map (·.size) = some CS.toList.length := by rw [hi46]; simp [hsz]
        have hi2 : (Tryz.prog.info? 46).map (·.size) = some CS.size := by rw [hi46, hsz]
        have hrb : ((wr.alloc (.cells zStep 46)).setCells wr.heap.size 0 CS.toList).rangeAt wr.heap.size 0 CS.toList := b2.rangeAt
        have HC := Lib.hid (And.intro hr' (And.intro b1 (And.intro b3 (And.intro hone (And.intro hcall (And.intro hi1 (And.intro hi2 (And.intro hrb hsv))))))))
        clear hr hr' b1 b2 b3 hone hcall hi1 hi2 hrb hCS hsz hsv
        have h0 : (0 : Int) ≤ (j : Int) := Int.natCast_nonneg _
        have h1 : (j : Int) < (ss.length : Int) := by omega
        go_wp2_with (first
          | (refine wpList_load_mid rfl 46 (.tmp 12) rfl b (o + j * 16) rfl CS.toList _ HC.out.1 Tryz.underlying46 rfl HC.out.2.2.2.2.2.1 ?_)
          | (refine wpList_store_mid rfl 46 (.tmp 4) (.tmp 13) rfl wr.heap.size 0 CS (by rfl) (by simp [Act.eval, Act.put]) HC.out.2.1 HC.out.2.2.2.2.2.2.1 HC.out.2.2.2.1 ?_)
          | (refine wpList_load_mid rfl 46 (.tmp 4) rfl wr.heap.size 0 rfl CS.toList _ HC.out.2.2.2.2.2.2.2.1 Tryz.underlying46 rfl HC.out.2.2.2.2.2.1 ?_)
          | fail)
        refine HC.out.2.2.2.2.1.mono ?_
        rintro e w2 ⟨r, rfl, hk2, hr2⟩
        have H2 := Lib.hid (And.intro hk2 hr2)
        clear hk2 hr2
        cases r
        · go_wp2_with fail
          go_ret
          exact ⟨false, rfl, (HK.out.1.none_trans HC.out.2.2.1).none_trans H2.out.1, fun h => by cases h⟩
        · go_wp2_with fail
          refine ⟨⟨j + 1, by go_num, by omega, (HK.out.1.none_trans HC.out.2.2.1).none_trans H2.out.1, fun q s hq h2 => ?_⟩, by simp [intOf]; omega⟩
          by_cases hqj : q = j
          · subst hqj
            have e := HC.out.2.2.2.2.2.2.2.2
            rw [e] at h2
            injection h2 with h2
            subst h2
            exact H2.out.2 (by trivial)
          · exact HK.out.2 q s (by omega) h2
      · go_wp2_with fail
        go_ret
        exact ⟨true, rfl, HK.out.1, fun _ => ⟨hb, fun sv hsv => by obtain ⟨q, hq⟩ := List.getElem?_of_mem hsv; exact HK.out.2 q sv (by have := (List.getElem?_eq_some_iff.1 hq).1; omega) hq⟩⟩
  · go_enter Tryz.func5, Tryz.ntmps5
    go_wp2_with fail
    go_ret
    exact ⟨false, rfl, Keep.refl _ _, fun h => by cases h⟩

end Go.Proofs.YtmblkpjnafgplaaGreatDoor
