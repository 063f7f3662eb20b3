/- Cuts of slices, children by key, what Find answers. The subject tree's Find. -/
import Derived.Test.YtmblkpjnafgplaaGreatDoorR01
import Derived.Test.YtmblkpjnafgplaaGreatDoorR02
import Derived.Deep.LoopGhost
namespace Go.Proofs.YtmblkpjnafgplaaGreatDoor
open Go Go.RowKit
set_option maxRecDepth 100000
set_option linter.unusedVariables false
set_option linter.unusedSimpArgs false

/-- the address behind a cut 's[i:]' -/
def cutA (A : Option Addr) (c i : Nat) : Option Addr := if c = i then A else A.map (·.add i)

theorem cut_lo (A : Option Addr) (n c i : Nat) (hi : i ≤ n) (w : World) : (Instr.slice 37 (.slice A n c) (some (.int .i64 (i : Int))) none none).run Tryz.prog w = .ok (.slice (cutA A c i) (n - i) (c - i)) w := by
  rw [run_slice_l (P := Tryz.prog) w 37 A n c (by simp [Program.elem, Tryz.underlying37]) .i64 i (by omega) (by omega)]
  simp [Program.elem, Tryz.underlying37, Tryz.sizeOf5, sliced, cutA]
theorem cut_lh (A : Option Addr) (n c i j : Nat) (hi : i ≤ j) (hj : j ≤ c) (w : World) : (Instr.slice 37 (.slice A n c) (some (.int .i64 (i : Int))) (some (.int .i64 (j : Int))) none).run Tryz.prog w = .ok (.slice (cutA A c i) (j - i) (c - i)) w := by
  rw [run_slice_lh (P := Tryz.prog) w 37 A n c (by simp [Program.elem, Tryz.underlying37]) .i64 .i64 i j (by omega) (by omega) (by omega)]
  simp [Program.elem, Tryz.underlying37, Tryz.sizeOf5, sliced, cutA]

theorem RowAt.cut {w : World} {A : Option Addr} {n c i : Nat} {s : Bs} (h : RowAt w 1 A n (s.map byteV)) (hi : i ≤ n) (hc : n ≤ c) : RowAt w 1 (cutA A c i) (n - i) ((s.drop i).map byteV) := by
  have hl : s.length = n := by simpa using h.1
  refine ⟨by simp; omega, fun hn => ?_⟩
  obtain ⟨ad, rfl, hs, hcell⟩ := h.2 (by omega)
  have hne : c ≠ i := by omega
  refine ⟨ad.add i, by simp [cutA, hne], ?_, fun j u hu => ?_⟩
  · unfold Addr.add; split <;> simp [hs]
  · rw [List.map_drop, List.getElem?_drop] at hu
    have := hcell (i + j) u hu
    have e1 : (ad.add i).block = ad.block := by unfold Addr.add; split <;> rfl
    have e2 : (ad.add i).off = ad.off + i := by unfold Addr.add; split <;> simp_all
    rw [e1, e2, Nat.add_assoc]; exact this
theorem RowAt.take {w : World} {A : Option Addr} {n j : Nat} {s : Bs} (h : RowAt w 1 A n (s.map byteV)) (hj : j ≤ n) : RowAt w 1 A j ((s.take j).map byteV) := by
  have hl : s.length = n := by simpa using h.1
  refine ⟨by simp; omega, fun hn => ?_⟩
  obtain ⟨ad, rfl, hs, hcell⟩ := h.2 (by omega)
  refine ⟨ad, rfl, hs, fun k u hu => ?_⟩
  rw [List.map_take, List.getElem?_take] at hu
  split at hu
  · exact hcell k u hu
  · cases hu
theorem blkOf_cut {A : Option Addr} {c i k : Nat} (h : blkOf (cutA A c i) k) : blkOf A k := by
  obtain ⟨ad, e, rfl⟩ := h
  unfold cutA at e
  split at e
  · exact ⟨ad, e, rfl⟩
  · cases A with
    | none => cases e
    | some a => simp only [Option.map_some, Option.some.injEq] at e; subst e; exact ⟨a, rfl, by unfold Addr.add; split <;> rfl⟩

theorem ta_leaf (b : Nat) (w : World) : (Instr.typeAssert (.iface 265 (.pointer (some ⟨b, 0, none⟩))) 197 265 false).run Tryz.prog w = .ok (.pointer (some ⟨b, 0, none⟩)) w := by kernel_rfl

theorem quiet_add_same {P : Program} {f : FuncId} {args : Array Value} {w : World} {a n : Nat} {v : Value}
    (h : Calls P f args (w.drewN (a + n)) fun e w' => e = .returned v ∧ w' = w.drewN (a + n)) :
    Calls P f args (w.drewN (a + n)) fun e w'' => e = .returned v ∧ ∃ m, w'' = w.drewN (a + m) :=
  h.mono fun _ _ ⟨he, hm⟩ => ⟨he, n, hm⟩

/-- no entry's text is longer than any memory bears -/
def Short (M : List Ent) : Prop := ∀ e ∈ M, e.1.length ≤ 2305843009213693952

theorem Short.kid {p : Bs} {ks : List Kid} (h : Short (ks.flatMap fun c => c.M.map fun e => (p ++ e.1, e.2))) {d : Kid} (hd : d ∈ ks) : Short d.M := by
  intro e he
  have := h (p ++ e.1, e.2) (by simp only [List.mem_flatMap, List.mem_map]; exact ⟨d, hd, e, he, rfl⟩)
  simp at this; omega
theorem Short.pre {p : Bs} {ks : List Kid} (h : Short (ks.flatMap fun c => c.M.map fun e => (p ++ e.1, e.2))) (h0 : ks ≠ []) (hM : ∀ c ∈ ks, c.M ≠ [] ∧ ∀ e ∈ c.M, pv e.1 = c.key) : p.length ≤ 2305843009213693952 := by
  obtain ⟨c, t, rfl⟩ := List.exists_cons_of_ne_nil h0
  obtain ⟨e, t', he⟩ := List.exists_cons_of_ne_nil (hM c (by simp)).1
  have := h (p ++ e.1, e.2) (by simp only [List.mem_flatMap, List.mem_map]; exact ⟨c, by simp, e, by rw [he]; simp, rfl⟩)
  simp at this; omega

def FindSt (w : World) (s : Bs) (M0 : List Ent) (i g : Nat) (v : Value) : Prop :=
  i ≤ s.length ∧ ((v = .nilIface ∧ ∀ b, (s, b) ∉ M0) ∨ ∃ M F, TNode w v M F ∧ Short M ∧ F.length = g ∧ ∀ b, (s, b) ∈ M0 ↔ (s.drop i, b) ∈ M)

def FindEnd (w : World) (s : Bs) (M0 : List Ent) (e : Ending) (w' : World) : Prop :=
  (∃ q, w' = w.drewN q) ∧ ((∃ b, (s, b) ∈ M0 ∧ e = .returned (.tuple #[.pointer (some ⟨b, 0, none⟩), .bool true])) ∨ ((∀ b, (s, b) ∉ M0) ∧ e = .returned (.tuple #[.pointer none, .bool false])))

theorem FindEnd.no {w : World} {s : Bs} {M0 : List Ent} (h : ∀ b, (s, b) ∉ M0) (q : Nat) : FindEnd w s M0 (.returned (.tuple #[.pointer none, .bool false])) (w.drewN q) := ⟨⟨q, rfl⟩, .inr ⟨h, rfl⟩⟩
theorem FindEnd.yes {w : World} {s : Bs} {M0 : List Ent} {b : Nat} (h : (s, b) ∈ M0) (q : Nat) : FindEnd w s M0 (.returned (.tuple #[.pointer (some ⟨b, 0, none⟩), .bool true])) (w.drewN q) := ⟨⟨q, rfl⟩, .inl ⟨b, h, rfl⟩⟩

theorem kid_at {ks : List Kid} (hd : (ks.map Kid.key).Nodup) {i j : Nat} {c d : Kid} (hi : ks[i]? = some c) (hj : ks[j]? = some d) (e : c.key = d.key) : i = j := by
  have h1 := (List.getElem?_eq_some_iff.1 hi).1
  have h2 := (List.getElem?_eq_some_iff.1 hj).1
  have e1 : ks[i] = c := (List.getElem?_eq_some_iff.1 hi).2
  have e2 : ks[j] = d := (List.getElem?_eq_some_iff.1 hj).2
  rcases Nat.lt_trichotomy i j with h | h | h
  · exact absurd (by rw [List.getElem_map, List.getElem_map, e1, e2]; exact e) (List.pairwise_iff_getElem.1 hd i j (by simpa using h1) (by simpa using h2) h)
  · exact h
  · exact absurd (by rw [List.getElem_map, List.getElem_map, e1, e2]; exact e.symm) (List.pairwise_iff_getElem.1 hd j i (by simpa using h2) (by simpa using h1) h)

theorem found_yes {b : Nat} {ks : List Kid} {x : UInt8} {w w' : World} {e : Ending} (hd : (ks.map Kid.key).Nodup) {i : Nat} {c : Kid} (hi : ks[i]? = some c) (hc : c.key = x) (h : Found b ks x w e w') :
    e = .returned (.pointer (some ⟨b, i, none⟩)) ∧ w' = w := by
  obtain ⟨rfl, h | h⟩ := h
  · obtain ⟨j, d, hj, hdk, rfl⟩ := h
    obtain rfl := kid_at hd hi hj (hc.trans hdk.symm)
    exact ⟨rfl, rfl⟩
  · exact absurd hc (h.1 c (List.mem_of_getElem? hi))
theorem found_no {b : Nat} {ks : List Kid} {x : UInt8} {w w' : World} {e : Ending} (hn : ∀ c ∈ ks, c.key ≠ x) (h : Found b ks x w e w') :
    e = .returned (.pointer none) ∧ w' = w := by
  obtain ⟨rfl, h | h⟩ := h
  · obtain ⟨j, d, hj, hdk, rfl⟩ := h
    exact absurd hdk (hn d (List.mem_of_getElem? hj))
  · exact ⟨h.2, rfl⟩

/-- the entries of an inner node -/
theorem mem_inner {p : Bs} {ks : List Kid} {t : Bs} {b : Nat} : (p ++ t, b) ∈ (ks.flatMap fun c => c.M.map fun e => (p ++ e.1, e.2)) ↔ ∃ c ∈ ks, (t, b) ∈ c.M := by
  simp only [List.mem_flatMap, List.mem_map, Prod.mk.injEq]
  constructor
  · rintro ⟨c, hc, ⟨e1, e2⟩, he, h1, rfl⟩
    exact ⟨c, hc, by rw [← List.append_cancel_left h1]; exact he⟩
  · rintro ⟨c, hc, he⟩
    exact ⟨c, hc, (t, b), he, rfl, rfl⟩
theorem mem_inner_pre {p : Bs} {ks : List Kid} {s : Bs} {b : Nat} (h : (s, b) ∈ (ks.flatMap fun c => c.M.map fun e => (p ++ e.1, e.2))) : ∃ t, s = p ++ t := by
  simp only [List.mem_flatMap, List.mem_map, Prod.mk.injEq] at h
  obtain ⟨c, hc, ⟨e1, e2⟩, he, h1, rfl⟩ := h
  exact ⟨e1, h1.symm⟩

theorem len_F {ks : List Kid} {b : Nat} {c : Kid} (hc : c ∈ ks) : c.F.length < (b :: ks.flatMap Kid.F).length := by
  have : c.F.length ≤ (ks.flatMap Kid.F).length := by
    rw [List.flatMap_def]
    exact (List.sublist_flatten_of_mem (List.mem_map_of_mem hc)).length_le
  simp only [List.length_cons]; omega

end Go.Proofs.YtmblkpjnafgplaaGreatDoor

namespace Go.Proofs.YtmblkpjnafgplaaGreatDoor
open Go Go.RowKit
set_option maxRecDepth 100000
set_option linter.unusedVariables false
set_option linter.unusedSimpArgs false

set_option maxHeartbeats 2000000 in
theorem find_tree (tb : Nat) (A : Option Addr) (n c : Nat) (s : Bs) (root : Value) (M0 : List Ent) (g : Nat) (w : World) (h : RowAt w 1 A n (s.map byteV)) (hn : n ≤ 2305843009213693952) (hnc : n ≤ c)
    (hr : w.cell? ⟨tb, 0, none⟩ = some root) (hM : FindSt w s M0 0 g root) :
    Calls Tryz.prog 122 #[.pointer (some ⟨tb, 0, none⟩), .slice A n c] w (FindEnd w s M0) := by
  have hl : s.length = n := by simpa using h.1
  have H := Lib.hid h
  have L := Lib.hid hl
  have HM := Lib.hid hM
  clear h hl hM
  go_enter Tryz.func122, Tryz.ntmps122
  go_wp2
  go_loopg [7, 6] g (fun k v i wr => ∃ i' q : Nat, i = .int .i64 i' ∧ wr = w.drewN q ∧ FindSt w s M0 i' k v)
  case atStart => exact ⟨0, 0, rfl, rfl, HM.out⟩
  case round =>
    obtain ⟨i, q, rfl, rfl, hi, hst⟩ := hrel
    have hl := L.out
    have hin : i ≤ n := by omega
    rcases hst with ⟨rfl, hM0⟩ | ⟨M, F, hnode, hsh, hF, hiff⟩
    · have HF := Lib.hid (FindEnd.no (w := w) hM0 q)
      clear hM0 hl
      go_wp2
      go_ret2
      exact HF.out
    · cases hnode with
      | leaf b suf C hb hz hs =>
        have c5 := cellOf hb hs
        have m1 := me_leaf_isLeaf b
        have ta := ta_leaf b
        have hcut := cut_lo A n c i hin
        have hmatch := fun k => match_any b (cutA A c i) (n - i) (c - i) (s.drop i) suf (w.drewN k) (H.out.cut hin hnc) c5
        have HT := Lib.hid hmatch
        clear hmatch hl
        by_cases he : s.drop i = suf
        · have hfin := fun k => FindEnd.yes (w := w) (b := b) ((hiff b).2 (by simp [he])) k
          have heq : (s.drop i == suf) = true := by simp [he]
          rw [heq] at HT
          have HF := Lib.hid hfin
          clear hb hz hs hiff hF he hfin heq hsh
          go_wp2_with (first | (go_at_call 334; refine (leaf_isLeaf _ _).mono ?_; rintro e w' ⟨rfl, rfl⟩) | (go_at_call 183; refine (HT.out _).mono ?_; rintro e w' ⟨rfl, k2, rfl⟩))
          go_ret2
          exact HF.out _
        · have hfin := fun k => FindEnd.no (w := w) (s := s) (M0 := M0) (fun b' hb' => he (by have := (hiff b').1 hb'; simp at this; exact this.1)) k
          have heq : (s.drop i == suf) = false := by simp [he]
          rw [heq] at HT
          have HF := Lib.hid hfin
          clear hb hz hs hiff hF he hfin heq hsh
          go_wp2_with (first | (go_at_call 334; refine (leaf_isLeaf _ _).mono ?_; rintro e w' ⟨rfl, rfl⟩) | (go_at_call 183; refine (HT.out _).mono ?_; rintro e w' ⟨rfl, k2, rfl⟩))
          go_ret2
          exact HF.out _
      | inner k b p ks C hb hC hk hMk hd h0 =>
        subst hF
        have cp := cellOf hb hC.pre
        have hpb := hsh.pre h0 hMk
        have HSh := Lib.hid hsh
        clear hsh
        have m1 := me_isLeaf k b
        have m2 := me_base k b
        have m3 := me_findChild k b
        have m4 := na_findChild k b
        have m5 := cf_find k
        have hcut := cut_lh A n c i (min (i + p.length) n) (by omega) (by omega)
        have hcv := fun k => conv_bs (w.drewN k) (cutA A c i) (min (i + p.length) n - i) (c - i) ((s.drop i).take p.length) (by
          have h1 := (H.out.cut hin hnc).take (j := min (i + p.length) n - i) (by omega)
          rwa [show (s.drop i).take (min (i + p.length) n - i) = (s.drop i).take p.length from by
            rcases Nat.le_total (i + p.length) n with h | h
            · rw [Nat.min_eq_left h]; congr 1; omega
            · rw [Nat.min_eq_right h, List.take_of_length_le (by simp; omega), List.take_of_length_le (by simp; omega)]] at h1)
        generalize hmin : min (i + p.length) n = en at *
        by_cases hpre : ∃ t, s.drop i = p ++ t
        · obtain ⟨t, ht⟩ := hpre
          have hlen : i + p.length ≤ n := by have := congrArg List.length ht; simp at this; omega
          obtain rfl : i + p.length = en := by omega
          have htd : s.drop (i + p.length) = t := by rw [← List.drop_drop, ht]; simp
          have htk : (s.drop i).take p.length = p := by rw [ht]; simp
          rw [htk, show i + p.length - i = p.length from by omega] at hcv
          rw [show i + p.length - i = p.length from by omega, Int.natCast_add] at hcut
          have hiff' : ∀ b', (s, b') ∈ M0 ↔ ∃ c ∈ ks, (t, b') ∈ c.M := fun b' => by rw [hiff, ht, mem_inner]
          have hpiv := fun k => pivot_any A n c (i + p.length) s (w.drewN k) H.out (by unfold maxLen; omega) (by unfold maxLen; omega)
          rw [htd] at hpiv
          have hpiv := fun k => (hpiv k).mono (fun e w' (h : _ ∧ _) => (⟨h.1, h.2.symm⟩ : e = .returned (byteV (pv t)) ∧ w' = w.drewN k))
          rw [Int.natCast_add] at hpiv
          by_cases hex : ∀ c ∈ ks, c.key ≠ pv t
          · have hno : ∀ b', (s, b') ∉ M0 := fun b' hb' => by
              obtain ⟨d, hd1, hd2⟩ := (hiff' b').1 hb'
              exact hex d hd1 ((hMk d hd1).2 _ hd2).symm
            have hfin := fun k => FindEnd.no (w := w) hno k
            have hfc := fun q => (find_any k b (pv t) p ks C (w.drewN q) hb hC).mono (fun e w' h => found_no hex h)
            have HF := Lib.hid hfin
            have HP := Lib.hid hpiv
            have HC := Lib.hid hfc
            clear hb hC hk hMk hd h0 hiff hiff' hno hfin hfc hpiv ht htd htk hl hex hmin
            generalize pv t = x at *
            by_cases hp0 : p = []
            · subst hp0
              have HP := Lib.hid (show ∀ k, Calls Tryz.prog 184 #[.slice A n c, .int .i64 i] (w.drewN k) (fun e w' => e = .returned (byteV x) ∧ w' = w.drewN k) by simpa using HP.out)
              go_wp2_with (first | (go_at_call 342; refine (meta_isLeaf _ _).mono ?_; rintro e w' ⟨rfl, rfl⟩) | (go_at_call 341; refine (meta_base _ _ _).mono ?_; rintro e w' ⟨rfl, rfl⟩))
              go_quiet ((first | (go_at_call 184; exact quiet_add_same (HP.out _)) | (with_reducible exact quiet_add_same (HC.out _))))
              go_wp2
              go_ret2
              first | exact HF.out _ | (rw [World.drewN_drewN]; exact HF.out _)
            · have hpl : 0 < p.length := List.length_pos_iff.2 hp0
              go_wp2_with (first | (go_at_call 342; refine (meta_isLeaf _ _).mono ?_; rintro e w' ⟨rfl, rfl⟩) | (go_at_call 341; refine (meta_base _ _ _).mono ?_; rintro e w' ⟨rfl, rfl⟩))
              go_quiet (fail)
              go_wp2
              go_quiet ((first | (go_at_call 184; exact quiet_add_same (HP.out _)) | (with_reducible exact quiet_add_same (HC.out _))))
              go_wp2
              go_ret2
              first | exact HF.out _ | (rw [World.drewN_drewN]; exact HF.out _)
          · obtain ⟨idx, d, hgd, hkey⟩ := key48 hex
            have hmem := List.mem_of_getElem? hgd
            have hmore : ∀ b', (s, b') ∈ M0 ↔ (t, b') ∈ d.M := fun b' => by
              rw [hiff']
              constructor
              · rintro ⟨d', hd1, hd2⟩
                obtain ⟨j, hj, rfl⟩ := List.mem_iff_getElem.1 hd1
                have := (hMk _ hd1).2 _ hd2
                obtain rfl := kid_at hd hgd (List.getElem?_eq_getElem hj) (hkey.trans this)
                rw [List.getElem?_eq_getElem hj] at hgd
                injection hgd with hgd
                rw [← hgd]; exact hd2
              · exact fun h => ⟨d, hmem, h⟩
            have hfin : FindSt w s M0 (i + p.length) d.F.length d.val := ⟨by omega, .inr ⟨d.M, d.F, hk d hmem, HSh.out.kid hmem, rfl, fun b' => by rw [htd]; exact hmore b'⟩⟩
            have hfc := fun q => (find_any k b (pv t) p ks C (w.drewN q) hb hC).mono (fun e w' h => found_yes hd hgd hkey h)
            have HLt := Lib.hid (len_F (b := b) hmem)
            have cv := cellOf hb (hC.kid idx d hgd)
            have HF := Lib.hid hfin
            have HP := Lib.hid hpiv
            have HC := Lib.hid hfc
            clear hfin hfc hmore hgd hmem hkey hb hC hk hMk hd h0 hiff hiff' hpiv ht htd htk hl hex hmin
            generalize pv t = x at *
            by_cases hp0 : p = []
            · subst hp0
              have HP := Lib.hid (show ∀ k, Calls Tryz.prog 184 #[.slice A n c, .int .i64 i] (w.drewN k) (fun e w' => e = .returned (byteV x) ∧ w' = w.drewN k) by simpa using HP.out)
              go_wp2_with (first | (go_at_call 342; refine (meta_isLeaf _ _).mono ?_; rintro e w' ⟨rfl, rfl⟩) | (go_at_call 341; refine (meta_base _ _ _).mono ?_; rintro e w' ⟨rfl, rfl⟩))
              go_quiet ((first | (go_at_call 184; exact quiet_add_same (HP.out _)) | (with_reducible exact quiet_add_same (HC.out _))))
              go_wp2
              go_roundg (d.F.length)
              case measure => exact HLt.out
              case rel => exact ⟨_, _, by go_num, rfl, HF.out⟩
            · have hpl : 0 < p.length := List.length_pos_iff.2 hp0
              go_wp2_with (first | (go_at_call 342; refine (meta_isLeaf _ _).mono ?_; rintro e w' ⟨rfl, rfl⟩) | (go_at_call 341; refine (meta_base _ _ _).mono ?_; rintro e w' ⟨rfl, rfl⟩))
              go_quiet (fail)
              go_wp2
              go_quiet ((first | (go_at_call 184; exact quiet_add_same (HP.out _)) | (with_reducible exact quiet_add_same (HC.out _))))
              go_wp2
              go_roundg (d.F.length)
              case measure => exact HLt.out
              case rel => exact ⟨_, _, by go_num, rfl, HF.out⟩
        · have hno : ∀ b', (s, b') ∉ M0 := fun b' hb' => hpre (mem_inner_pre ((hiff b').1 hb'))
          have hp0 : p ≠ [] := fun e => hpre ⟨s.drop i, by rw [e]; rfl⟩
          have hne : ((s.drop i).take p.length == p) = false := by
            rw [beq_eq_false_iff_ne]; intro e
            exact hpre ⟨(s.drop i).drop p.length, by conv => lhs; rw [← List.take_append_drop p.length (s.drop i), e]⟩
          have hpl : 0 < p.length := List.length_pos_iff.2 hp0
          have hfin := fun k => FindEnd.no (w := w) hno k
          have HF := Lib.hid hfin
          by_cases hle : i + p.length ≤ n
          · obtain rfl : i + p.length = en := by omega
            rw [show i + p.length - i = p.length from by omega] at hcv hcut
            rw [Int.natCast_add] at hcut
            clear hfin hno hb hC hk hMk hd h0 hiff hl hpre hmin hp0
            generalize (s.drop i).take p.length = y at *
            go_wp2_with (first | (go_at_call 342; refine (meta_isLeaf _ _).mono ?_; rintro e w' ⟨rfl, rfl⟩) | (go_at_call 341; refine (meta_base _ _ _).mono ?_; rintro e w' ⟨rfl, rfl⟩))
            go_quiet (fail)
            go_wp2
            go_ret2
            first | exact HF.out _ | (rw [World.drewN_drewN]; exact HF.out _)
          · obtain rfl : n = en := by omega
            clear hfin hno hb hC hk hMk hd h0 hiff hl hpre hmin hp0
            generalize (s.drop i).take p.length = y at *
            go_wp2_with (first | (go_at_call 342; refine (meta_isLeaf _ _).mono ?_; rintro e w' ⟨rfl, rfl⟩) | (go_at_call 341; refine (meta_base _ _ _).mono ?_; rintro e w' ⟨rfl, rfl⟩))
            go_quiet (fail)
            go_wp2
            go_ret2
            first | exact HF.out _ | (rw [World.drewN_drewN]; exact HF.out _)
end Go.Proofs.YtmblkpjnafgplaaGreatDoor
