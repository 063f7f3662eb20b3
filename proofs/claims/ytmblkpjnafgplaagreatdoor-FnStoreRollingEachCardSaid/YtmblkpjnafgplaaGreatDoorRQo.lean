/- A script that came in, read as steps. -/
import Derived.Test.YtmblkpjnafgplaaGreatDoorR25
import Derived.ProofKit
import Derived.Deep.Slices
namespace Go.Proofs.YtmblkpjnafgplaaGreatDoor
open Go Go.RowKit Go.ChangeShapes Go.WideShapes
set_option maxRecDepth 100000
set_option linter.unusedVariables false
set_option linter.unusedSimpArgs false

theorem spot_none {w : World} {a : Addr} {v : Value} (h : w.cell? a = some v) : a.spot = none := by
  unfold World.cell? at h
  split at h
  · split at h
    · cases h
    · rename_i hs; simpa using hs
  · cases h
theorem add_plain {a : Addr} (h : a.spot = none) (i : Nat) : a.add i = ⟨a.block, a.off + i, none⟩ := by
  obtain ⟨b, o, s⟩ := a
  simp only at h
  subst h
  exact Addr.add_lit ..
theorem cells_get {w : World} {b n : Nat} {a : Addr} {cs : List Value} (h : w.cells? b a n = some cs) : cs.length = n ∧ ∀ i, i < n → w.cell? (a.add i) = cs[i]? := by
  unfold World.cells? at h
  split at h
  · refine ⟨by simpa using mapM_some_length h, fun i hi => ?_⟩
    exact mapM_some_get h i i (List.getElem?_range hi)
  · cases h

theorem choose_list {α : Type} {Q : Nat → α → Prop} : ∀ n, (∀ i, i < n → ∃ x, Q i x) → ∃ l : List α, l.length = n ∧ ∀ i x, l[i]? = some x → Q i x
  | 0, _ => ⟨[], rfl, fun i x h => by simp at h⟩
  | n + 1, h => by
    obtain ⟨l, hl, hq⟩ := choose_list n (fun i hi => h i (by omega))
    obtain ⟨x, hx⟩ := h n (by omega)
    refine ⟨l ++ [x], by simp [hl], fun i y hy => ?_⟩
    by_cases hi : i < l.length
    · exact hq i y (by rwa [List.getElem?_append_left hi] at hy)
    · have hlt := (List.getElem?_eq_some_iff.1 hy).1
      simp only [List.length_append, List.length_cons, List.length_nil] at hlt
      obtain rfl : i = l.length := by omega
      rw [List.getElem?_append_right (Nat.le_refl _), Nat.sub_self] at hy
      simp only [List.getElem?_cons_zero, Option.some.injEq] at hy
      subst hy
      rw [hl]; exact hx

theorem flat_get {α : Type} {f : α → List Value} {size : Nat} (hf : ∀ x, (f x).length = size) : ∀ (l : List α) (j : Nat) (u : Value), (l.flatMap f)[j]? = some u → ∃ i k x, l[i]? = some x ∧ (f x)[k]? = some u ∧ j = i * size + k
  | [], j, u, h => by simp at h
  | x :: t, j, u, h => by
    rw [List.flatMap_cons] at h
    by_cases hj : j < size
    · rw [List.getElem?_append_left (by rw [hf]; exact hj)] at h
      exact ⟨0, j, x, rfl, h, by omega⟩
    · rw [List.getElem?_append_right (by rw [hf]; omega), hf] at h
      obtain ⟨i, k, y, h1, h2, h3⟩ := flat_get hf t _ u h
      exact ⟨i + 1, k, y, by simpa using h1, h2, by rw [Nat.add_mul]; omega⟩

section
variable {H : Type} {enc : TypeId × Value → H} {W : World} {sp : Nat → Bool} {held : Bool}

theorem bytes_of {fuel : Nat} {v : Value} {x : DataW H × List MemPlace} (h : DataW.trod enc Tryz.prog W 0 sp held fuel 37 [v] = some x) : ∃ (A : Option Addr) (xs : Bs) (c : Nat), v = .slice A xs.length c ∧ RowAt W 1 A xs.length (xs.map byteV) ∧ xs.length ≤ maxLen := by
  have c5 : Tryz.prog.cellsOf 5 = 1 := by kernel_rfl
  rcases open_ints Tryz.underlying37 Tryz.underlying5 c5 h with ⟨e, _⟩ | ⟨a, len, cap, zs, e, _, hl, hm, hz, _, hc, hw⟩
  · exact ⟨none, [], 0, by simpa using e, .nil_ _ _ _, Nat.zero_le _⟩
  · have hle : len ≤ zs.length := by rw [hz]; split <;> omega
    have hxl : ((zs.take len).map fun z => UInt8.ofNat z.toNat).length = len := by rw [List.length_map, List.length_take]; omega
    refine ⟨some a, (zs.take len).map fun z => UInt8.ofNat z.toNat, cap, by rw [hxl]; simpa using e, ⟨by simp, fun hn => ?_⟩, by omega⟩
    rw [hxl] at hn
    have h0 := hc 0 (by omega)
    have hs := spot_none h0
    rw [show a.add 0 = a by simp [Addr.add]] at hs
    refine ⟨a, rfl, hs, fun j u hu => ?_⟩
    have hj : j < len := by have := (List.getElem?_eq_some_iff.1 hu).1; rw [List.length_map, hxl] at this; exact this
    have hz2 : j < zs.length := by omega
    have := hc j hz2
    rw [add_plain hs] at this
    rw [this]
    have hmem : zs[j] ∈ zs := List.getElem_mem hz2
    have hwf := hw _ hmem
    rw [List.getElem?_map, List.getElem?_map, List.getElem?_take_of_lt hj, List.getElem?_eq_getElem hz2] at hu
    simp only [Option.map_some, Option.some.injEq] at hu
    subst hu
    congr 1
    rw [List.getD_eq_getElem?_getD, List.getElem?_eq_getElem hz2]
    have hr : 0 ≤ zs[j] ∧ zs[j] < 256 := by
      simp [Lit.wf] at hwf
      have e1 : IntKind.u8.min = 0 := rfl
      have e2 : IntKind.u8.max = 255 := rfl
      omega
    show Value.int .u8 zs[j] = Value.int .u8 _
    congr 1
    have : (UInt8.ofNat zs[j].toNat).toNat = zs[j].toNat % 256 := by simp
    rw [this]
    omega

theorem strings_of {fuel : Nat} {v : Value} {x : DataW H × List MemPlace} (h : DataW.trod enc Tryz.prog W 0 sp held fuel 44 [v] = some x) : ∃ (A : Option Addr) (n c : Nat) (ss : List Bs), v = .slice A n c ∧ RowAt W 1 A n (ss.map str) ∧ n ≤ maxLen := by
  have c9 : Tryz.prog.cellsOf 9 = 1 := by kernel_rfl
  rcases open_strings Tryz.underlying44 Tryz.underlying9 c9 h with ⟨e, _⟩ | ⟨a, len, cap, ss, e, _, hl, hm, hz, _, hc, hw⟩
  · exact ⟨none, 0, 0, [], by simpa using e, .nil_ _ _ _, Nat.zero_le _⟩
  · have hle : len ≤ ss.length := by rw [hz]; split <;> omega
    have hxl : ((ss.take len).map fun s => s.data.toList).length = len := by rw [List.length_map, List.length_take]; omega
    refine ⟨some a, len, cap, (ss.take len).map fun s => s.data.toList, by simpa using e, ⟨by rw [List.length_map, hxl]; omega, fun hn => ?_⟩, by omega⟩
    have h0 := hc 0 (by omega)
    have hs := spot_none h0
    rw [show a.add 0 = a by simp [Addr.add]] at hs
    refine ⟨a, rfl, hs, fun j u hu => ?_⟩
    have hj : j < len := by have := (List.getElem?_eq_some_iff.1 hu).1; rw [List.length_map, hxl] at this; exact this
    have hz2 : j < ss.length := by omega
    have := hc j hz2
    rw [add_plain hs] at this
    rw [this]
    rw [List.getElem?_map, List.getElem?_map, List.getElem?_take_of_lt hj, List.getElem?_eq_getElem hz2] at hu
    simp only [Option.map_some, Option.some.injEq] at hu
    subst hu
    rw [List.getD_eq_getElem?_getD, List.getElem?_eq_getElem hz2]
    rfl

set_option maxHeartbeats 1000000 in
theorem step_of {fuel : Nat} {cs : List Value} {x : DataW H × List MemPlace} (h : DataW.trod enc Tryz.prog W 0 sp held fuel 46 cs = some x) : ∃ sv : StepV, cs = sv.cells ∧ StepIn W sv := by
  obtain ⟨xs, n, _, _, hl, hlen, hf⟩ := DataW.trod_struct Tryz.underlying46 h
  have c46 : Tryz.prog.cellsOf 46 = 16 := by kernel_rfl
  have c2 : Tryz.prog.cellsOf 2 = 1 := by kernel_rfl
  have c3 : Tryz.prog.cellsOf 3 = 1 := by kernel_rfl
  have c4 : Tryz.prog.cellsOf 4 = 1 := by kernel_rfl
  have c9 : Tryz.prog.cellsOf 9 = 1 := by kernel_rfl
  have c25 : Tryz.prog.cellsOf 25 = 1 := by kernel_rfl
  have c27 : Tryz.prog.cellsOf 27 = 6 := by kernel_rfl
  have c37 : Tryz.prog.cellsOf 37 = 1 := by kernel_rfl
  have c44 : Tryz.prog.cellsOf 44 = 1 := by kernel_rfl
  rw [c46] at hl
  match cs, hl with
  | [v0, v1, v2, v3, v4, v5, v6, v7, v8, v9, v10, v11, v12, v13, v14, v15], _ =>
    match xs, hlen with
    | [y0, y1, y2, y3, y4, y5, y6, y7, y8, y9, y10], _ =>
      have f0 : DataW.trod enc Tryz.prog W 0 sp held n 3 (([v0, v1, v2, v3, v4, v5, v6, v7, v8, v9, v10, v11, v12, v13, v14, v15].drop 0).take (Tryz.prog.cellsOf 3)) = some y0 := hf 0 _ rfl
      rw [c3] at f0
      change DataW.trod enc Tryz.prog W 0 sp held n 3 [v0] = some y0 at f0
      have f1 : DataW.trod enc Tryz.prog W 0 sp held n 9 (([v0, v1, v2, v3, v4, v5, v6, v7, v8, v9, v10, v11, v12, v13, v14, v15].drop 1).take (Tryz.prog.cellsOf 9)) = some y1 := hf 1 _ rfl
      rw [c9] at f1
      change DataW.trod enc Tryz.prog W 0 sp held n 9 [v1] = some y1 at f1
      have f2 : DataW.trod enc Tryz.prog W 0 sp held n 37 (([v0, v1, v2, v3, v4, v5, v6, v7, v8, v9, v10, v11, v12, v13, v14, v15].drop 2).take (Tryz.prog.cellsOf 37)) = some y2 := hf 2 _ rfl
      rw [c37] at f2
      change DataW.trod enc Tryz.prog W 0 sp held n 37 [v2] = some y2 at f2
      have f3 : DataW.trod enc Tryz.prog W 0 sp held n 37 (([v0, v1, v2, v3, v4, v5, v6, v7, v8, v9, v10, v11, v12, v13, v14, v15].drop 3).take (Tryz.prog.cellsOf 37)) = some y3 := hf 3 _ rfl
      rw [c37] at f3
      change DataW.trod enc Tryz.prog W 0 sp held n 37 [v3] = some y3 at f3
      have f4 : DataW.trod enc Tryz.prog W 0 sp held n 2 (([v0, v1, v2, v3, v4, v5, v6, v7, v8, v9, v10, v11, v12, v13, v14, v15].drop 4).take (Tryz.prog.cellsOf 2)) = some y4 := hf 4 _ rfl
      rw [c2] at f4
      change DataW.trod enc Tryz.prog W 0 sp held n 2 [v4] = some y4 at f4
      have f5 : DataW.trod enc Tryz.prog W 0 sp held n 25 (([v0, v1, v2, v3, v4, v5, v6, v7, v8, v9, v10, v11, v12, v13, v14, v15].drop 5).take (Tryz.prog.cellsOf 25)) = some y5 := hf 5 _ rfl
      rw [c25] at f5
      change DataW.trod enc Tryz.prog W 0 sp held n 25 [v5] = some y5 at f5
      have f6 : DataW.trod enc Tryz.prog W 0 sp held n 25 (([v0, v1, v2, v3, v4, v5, v6, v7, v8, v9, v10, v11, v12, v13, v14, v15].drop 6).take (Tryz.prog.cellsOf 25)) = some y6 := hf 6 _ rfl
      rw [c25] at f6
      change DataW.trod enc Tryz.prog W 0 sp held n 25 [v6] = some y6 at f6
      have f7 : DataW.trod enc Tryz.prog W 0 sp held n 25 (([v0, v1, v2, v3, v4, v5, v6, v7, v8, v9, v10, v11, v12, v13, v14, v15].drop 7).take (Tryz.prog.cellsOf 25)) = some y7 := hf 7 _ rfl
      rw [c25] at f7
      change DataW.trod enc Tryz.prog W 0 sp held n 25 [v7] = some y7 at f7
      have f8 : DataW.trod enc Tryz.prog W 0 sp held n 4 (([v0, v1, v2, v3, v4, v5, v6, v7, v8, v9, v10, v11, v12, v13, v14, v15].drop 8).take (Tryz.prog.cellsOf 4)) = some y8 := hf 8 _ rfl
      rw [c4] at f8
      change DataW.trod enc Tryz.prog W 0 sp held n 4 [v8] = some y8 at f8
      have f9 : DataW.trod enc Tryz.prog W 0 sp held n 44 (([v0, v1, v2, v3, v4, v5, v6, v7, v8, v9, v10, v11, v12, v13, v14, v15].drop 9).take (Tryz.prog.cellsOf 44)) = some y9 := hf 9 _ rfl
      rw [c44] at f9
      change DataW.trod enc Tryz.prog W 0 sp held n 44 [v9] = some y9 at f9
      have f10 : DataW.trod enc Tryz.prog W 0 sp held n 27 (([v0, v1, v2, v3, v4, v5, v6, v7, v8, v9, v10, v11, v12, v13, v14, v15].drop 10).take (Tryz.prog.cellsOf 27)) = some y10 := hf 10 _ rfl
      rw [c27] at f10
      change DataW.trod enc Tryz.prog W 0 sp held n 27 [v10, v11, v12, v13, v14, v15] = some y10 at f10
      clear hf
      obtain ⟨op, e0, _, _⟩ := DataW.trod_int Tryz.underlying3 f0
      obtain ⟨s, e1, _, hs1⟩ := DataW.trod_string Tryz.underlying9 f1
      obtain ⟨A2, xs2, k2, rfl, r2, l2⟩ := bytes_of f2
      obtain ⟨A3, xs3, k3, rfl, r3, l3⟩ := bytes_of f3
      obtain ⟨t4, e4, _, _⟩ := DataW.trod_int Tryz.underlying2 f4
      obtain ⟨n5, e5, _, _⟩ := DataW.trod_int Tryz.underlying25 f5
      obtain ⟨n6, e6, _, _⟩ := DataW.trod_int Tryz.underlying25 f6
      obtain ⟨n7, e7, _, _⟩ := DataW.trod_int Tryz.underlying25 f7
      obtain ⟨b8, e8, _⟩ := DataW.trod_bool Tryz.underlying4 f8
      obtain ⟨A9, n9, k9, ss9, rfl, r9, l9⟩ := strings_of f9
      obtain ⟨zs, m, _, _, _, zlen, zf⟩ := DataW.trod_struct Tryz.underlying27 f10
      match zs, zlen with
      | [z0, z1, z2, z3, z4, z5], _ =>
        have g0 : DataW.trod enc Tryz.prog W 0 sp held m 2 (([v10, v11, v12, v13, v14, v15].drop 0).take (Tryz.prog.cellsOf 2)) = some z0 := zf 0 _ rfl
        rw [c2] at g0
        change DataW.trod enc Tryz.prog W 0 sp held m 2 [v10] = some z0 at g0
        have g1 : DataW.trod enc Tryz.prog W 0 sp held m 2 (([v10, v11, v12, v13, v14, v15].drop 1).take (Tryz.prog.cellsOf 2)) = some z1 := zf 1 _ rfl
        rw [c2] at g1
        change DataW.trod enc Tryz.prog W 0 sp held m 2 [v11] = some z1 at g1
        have g2 : DataW.trod enc Tryz.prog W 0 sp held m 2 (([v10, v11, v12, v13, v14, v15].drop 2).take (Tryz.prog.cellsOf 2)) = some z2 := zf 2 _ rfl
        rw [c2] at g2
        change DataW.trod enc Tryz.prog W 0 sp held m 2 [v12] = some z2 at g2
        have g3 : DataW.trod enc Tryz.prog W 0 sp held m 4 (([v10, v11, v12, v13, v14, v15].drop 3).take (Tryz.prog.cellsOf 4)) = some z3 := zf 3 _ rfl
        rw [c4] at g3
        change DataW.trod enc Tryz.prog W 0 sp held m 4 [v13] = some z3 at g3
        have g4 : DataW.trod enc Tryz.prog W 0 sp held m 4 (([v10, v11, v12, v13, v14, v15].drop 4).take (Tryz.prog.cellsOf 4)) = some z4 := zf 4 _ rfl
        rw [c4] at g4
        change DataW.trod enc Tryz.prog W 0 sp held m 4 [v14] = some z4 at g4
        have g5 : DataW.trod enc Tryz.prog W 0 sp held m 25 (([v10, v11, v12, v13, v14, v15].drop 5).take (Tryz.prog.cellsOf 25)) = some z5 := zf 5 _ rfl
        rw [c25] at g5
        change DataW.trod enc Tryz.prog W 0 sp held m 25 [v15] = some z5 at g5
        clear zf
        obtain ⟨q0, d0, _, _⟩ := DataW.trod_int Tryz.underlying2 g0
        obtain ⟨q1, d1, _, _⟩ := DataW.trod_int Tryz.underlying2 g1
        obtain ⟨q2, d2, _, _⟩ := DataW.trod_int Tryz.underlying2 g2
        obtain ⟨q3, d3, _⟩ := DataW.trod_bool Tryz.underlying4 g3
        obtain ⟨q4, d4, _⟩ := DataW.trod_bool Tryz.underlying4 g4
        obtain ⟨q5, d5, _, _⟩ := DataW.trod_int Tryz.underlying25 g5
        simp only [List.cons.injEq, and_true] at e0 e1 e4 e5 e6 e7 e8 d0 d1 d2 d3 d4 d5
        subst e0; subst e1; subst e4; subst e5; subst e6; subst e7; subst e8; subst d0; subst d1; subst d2; subst d3; subst d4; subst d5
        have hsl : s.data.toList.length = s.size := Array.length_toList
        unfold maxLen at l2 l3 l9 hs1
        refine ⟨⟨op, s.data.toList, A2, xs2, k2, A3, xs3, k3, t4, n5, n6, n7, b8, A9, n9, k9, q0, q1, q2, q3, q4, q5⟩, rfl, r2, r3, ⟨ss9, r9⟩, by omega, by omega, by omega, ?_⟩
        show s.data.toList.length ≤ _
        rw [hsl]; omega

/-- the whole script -/
theorem steps_of {fuel : Nat} {v : Value} {x : DataW H × List MemPlace} (h : DataW.trod enc Tryz.prog W 0 sp held fuel 22 [v] = some x) :
    ∃ (A : Option Addr) (ss : List StepV) (c : Nat), v = .slice A ss.length c ∧ RowAt W 16 A ss.length (ss.flatMap StepV.cells) ∧ ss.length ≤ c ∧ ss.length ≤ 9223372036854775807 ∧ ∀ sv ∈ ss, StepIn W sv := by
  have c46 : Tryz.prog.cellsOf 46 = 16 := by kernel_rfl
  rcases Deep.open_slice Tryz.underlying22 h with ⟨e, _⟩ | ⟨a, len, cap, m, n, D, Pl, e, _, hl, hm, hmm, _, hel⟩
  · exact ⟨none, [], 0, by simpa using e, .nil_ _ _ _, Nat.le_refl _, Nat.zero_le _, fun sv h => by cases h⟩
  · have hlm : len ≤ m := by rw [hmm]; split <;> omega
    rw [c46] at hel
    obtain ⟨ss, hss, hq⟩ := choose_list (Q := fun i sv => W.cells? 0 (a.add (i * 16)) 16 = some sv.cells ∧ StepIn W sv) len (fun i hi => by
      obtain ⟨cs', h1, h2⟩ := hel i (by omega)
      obtain ⟨sv, rfl, h3⟩ := step_of h2
      exact ⟨sv, h1, h3⟩)
    refine ⟨some a, ss, cap, by rw [hss]; simpa using e, ?_, by omega, by unfold maxLen at hm; omega, fun sv hsv => ?_⟩
    · have hlen : (ss.flatMap StepV.cells).length = ss.length * 16 := by
        clear hq hss
        induction ss with
        | nil => rfl
        | cons y t ih => rw [List.flatMap_cons, List.length_append, ih, show (y :: t).length = t.length + 1 from rfl, Nat.add_mul]; show 16 + _ = _; omega
      refine ⟨hlen, fun hn => ?_⟩
      have hs : a.spot = none := by
        obtain ⟨h1, _⟩ := hq 0 ss[0] (List.getElem?_eq_getElem hn)
        have h2 := (cells_get h1).2 0 (by decide)
        have h3 : W.cell? ((a.add (0 * 16)).add 0) = some (.int .i64 (ss[0]).op) := h2
        have := spot_none h3
        simpa [Addr.add] using this
      refine ⟨a, rfl, hs, fun j u hu => ?_⟩
      obtain ⟨i, k, sv, h1, h2, rfl⟩ := flat_get (f := StepV.cells) (size := 16) (fun _ => rfl) ss j u hu
      obtain ⟨h3, _⟩ := hq i sv h1
      have hk : k < 16 := (List.getElem?_eq_some_iff.1 h2).1
      have h4 := (cells_get h3).2 k hk
      rw [h2, add_plain hs, add_plain rfl] at h4
      rw [← Nat.add_assoc]; exact h4
    · obtain ⟨i, hi⟩ := List.getElem?_of_mem hsv
      exact (hq i sv hi).2

end
end Go.Proofs.YtmblkpjnafgplaaGreatDoor
