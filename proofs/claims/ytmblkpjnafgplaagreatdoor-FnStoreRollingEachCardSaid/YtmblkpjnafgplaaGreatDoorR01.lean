/- The subject tree's small functions: what each computes, and what of memory it turns. The inner nodes of the subject tree: addChild, findChild, isFull, kind by kind. PRINTED by wip/gen_sb.py. The inner nodes of the subject tree: grow, kind by kind. PRINTED by wip/gen_sc.py. -/
import Derived.Test.YtmblkpjnafgplaaGreatDoorProg
import Derived.Test.YtmblkpjnafgplaaGreatDoorR00
import Derived.WalkKit
import Derived.WalkSpells
import Derived.WalkLawsBesides
import Derived.StillTailTactics
import Derived.BigRegion
import Derived.BigQuiet
import Derived.Deep.QuietTactic
import Derived.Lib.ConvBytes
namespace Go.Proofs.YtmblkpjnafgplaaGreatDoor
open Go Go.RowKit
set_option maxRecDepth 100000
set_option linter.unusedVariables false
set_option linter.unusedSimpArgs false

theorem strOf (s : Bs) : strOfNums (s.map fun b => (b.toNat : Int)) = ⟨s.toArray⟩ := by
  simp [strOfNums, Function.comp_def]

/-- bytes made a string: the row's bytes -/
theorem conv_bs (w : World) (A : Option Addr) (n c : Nat) (s : Bs) (h : RowAt w 1 A n (s.map byteV)) :
    (convert 37 9 (.slice A n c)).run Tryz.prog w = .ok (str s) w := by
  have hl : s.length = n := by simpa using h.1
  rcases A with _ | ad
  · have h0 : n = 0 := by
      rcases Nat.eq_zero_or_pos n with h0 | h0
      · exact h0
      · obtain ⟨ad, e, _⟩ := h.2 h0; cases e
    subst h0
    obtain rfl := List.eq_nil_of_length_eq_zero hl
    exact run_convert_bytes_nil w 37 5 Tryz.underlying37 Tryz.underlying5 0 c 9 Tryz.underlying9
  · rcases Nat.eq_zero_or_pos n with h0 | h0
    · subst h0
      obtain rfl := List.eq_nil_of_length_eq_zero hl
      rw [run_convert_bytes_string w 37 9 5 _ _ _ Tryz.underlying37 Tryz.underlying5 Tryz.underlying9,
        run_bytesToString w ad 0 c [] (by simpa using run_loadCells_list (P := Tryz.prog) w ad [] (by simp))]
      rfl
    · obtain ⟨ad', e, hsp, hc⟩ := h.2 h0
      injection e with e; subst e
      obtain ⟨b, off, sp⟩ := ad
      simp only at hsp; subst hsp
      rw [run_convert_bytes_arg w 37 5 Tryz.underlying37 Tryz.underlying5 b off n c (s.map fun b => (b.toNat : Int)) (by simpa using hl) (fun i hi => by
        have := hc i (byteV (s[i]'(by omega))) (by simp [show i < s.length by omega])
        simp only at this
        rw [this]
        simp [List.getD, show i < s.length by omega]) 9 Tryz.underlying9, strOf]

theorem row_cell {w : World} {A : Option Addr} {n : Nat} {s : Bs} (h : RowAt w 1 A n (s.map byteV)) {i : Nat} (hi : i < n) :
    ∃ b o, A = some ⟨b, o, none⟩ ∧ ∃ h' : i < s.length, w.cell? ⟨b, o + i, none⟩ = some (byteV s[i]) := by
  obtain ⟨ad, u, e, hs, hu, hc⟩ := h.at_ hi
  obtain ⟨b, o, sp⟩ := ad
  simp only at hs; subst hs
  have hl : i < s.length := by have := h.1; simp at this; omega
  refine ⟨b, o, e, hl, ?_⟩
  simp only at hc
  rw [hc]
  simp [hl] at hu
  rw [hu]

theorem pv_drop (s : Bs) (p : Nat) : pv (s.drop p) = if h : p < s.length then s[p] else 127 := by
  by_cases h : p < s.length
  · rw [dif_pos h, List.drop_eq_getElem_cons h]; rfl
  · rw [dif_neg h, List.drop_eq_nil_of_le (by omega)]; rfl

/-- pivot -/
theorem pivot_any (A : Option Addr) (n c p : Nat) (s : Bs) (w : World) (h : RowAt w 1 A n (s.map byteV)) (hn : n ≤ maxLen) (hp : p ≤ maxLen) :
    Calls Tryz.prog 184 #[.slice A n c, .int .i64 p] w fun e w' => e = .returned (byteV (pv (s.drop p))) ∧ w = w' := by
  have hl : s.length = n := by simpa using h.1
  unfold maxLen at hn hp
  by_cases hlt : p < n
  · obtain ⟨b, o, rfl, h', hc⟩ := row_cell h hlt
    have hv : pv (s.drop p) = s[p] := by rw [pv_drop, dif_pos h']
    rw [hv]
    clear hv h
    go_enter Tryz.func184, Tryz.ntmps184
    go_wp2
    go_ret
    exact ⟨rfl, rfl⟩
  · have hv : pv (s.drop p) = 127 := by rw [pv_drop, dif_neg (by omega)]
    rw [hv]
    clear hv h
    go_enter Tryz.func184, Tryz.ntmps184
    go_wp2
    go_ret
    exact ⟨rfl, rfl⟩

/-- leaf.match -/
theorem match_any (b : Nat) (A : Option Addr) (n c : Nat) (s suf : Bs) (w : World) (h : RowAt w 1 A n (s.map byteV)) (h5 : w.cell? ⟨b, 5, none⟩ = some (str suf)) :
    Calls Tryz.prog 183 #[.pointer (some ⟨b, 0, none⟩), .slice A n c] w fun e w' => e = .returned (.bool (s == suf)) ∧ ∃ k, w' = w.drewN k := by
  have hc := conv_bs w A n c s h
  have hc' := fun k => conv_bs (w.drewN k) A n c s h
  clear h
  go_enter Tryz.func183, Tryz.ntmps183
  go_wp2
  go_quiet (fail)
  go_wp2
  go_ret
  exact ⟨rfl, _, rfl⟩

/-- the world behind a conversion keeps what was -/
theorem keep_bytesWorld (w : World) (e : TypeId) (s : ByteArray) : Keep NoB w (Lib.bytesWorld w e s) :=
  ⟨by unfold Lib.bytesWorld World.freeze; split <;> rfl, by unfold Lib.bytesWorld World.freeze; split <;> rfl, by unfold Lib.bytesWorld World.freeze; split <;> rfl,
   by rw [Lib.bytesWorld_size]; omega, fun k hk _ => Lib.bytesWorld_at_old w e s k hk⟩

theorem row_bytesWorld (w : World) (e : TypeId) (s : Bs) : RowAt (Lib.bytesWorld w e ⟨s.toArray⟩) 1 (some ⟨w.heap.size, 0, none⟩) s.length (s.map byteV) := by
  refine ⟨by simp, fun _ => ⟨_, rfl, rfl, fun j u hu => ?_⟩⟩
  simp only [List.getElem?_map, Option.map_eq_some_iff] at hu
  obtain ⟨x, hx, rfl⟩ := hu
  have hj : j < s.length := by
    rcases Nat.lt_or_ge j s.length with h | h
    · exact h
    · rw [List.getElem?_eq_none h] at hx; cases hx
  have := Lib.bytesWorld_cell w e ⟨s.toArray⟩ j (by simpa [ByteArray.size] using hj)
  simp only [Nat.zero_add]
  rw [this]
  simp [List.getD, hx]

/-- what a conversion of a string to bytes leaves -/
def MadeBytes (w : World) (s : Bs) (e : Ending) (w' : World) : Prop :=
  ∃ A c, e = .returned (.slice A s.length c) ∧ s.length ≤ c ∧ RowAt w' 1 A s.length (s.map byteV) ∧ (∀ k, blkOf A k → w.heap.size ≤ k ∧ k < w'.heap.size) ∧ Keep NoB w w'

theorem grownCap_le (w : World) (n : Nat) (e : TypeId) (hn : n < 2 ^ 63) : n ≤ grownCap w n 0 e ∧ grownCap w n 0 e ≤ maxLen := by
  unfold grownCap Question.cut maxLen
  simp only
  have := Nat.mod_lt (w.tape w.drawn (.appendCap n 0 e)) (show 0 < 2 ^ 63 - n by omega)
  omega

theorem made_bytes (w : World) (s : Bs) (hs : s.length < 2 ^ 63) :
    MadeBytes w s (.returned (.slice (some ⟨w.heap.size, 0, none⟩) s.length (grownCap w s.length 0 5))) (Lib.bytesWorld w 5 ⟨s.toArray⟩) :=
  ⟨_, _, rfl, (grownCap_le w _ 5 hs).1, row_bytesWorld w 5 s, fun k hk => by
    obtain ⟨ad, e, rfl⟩ := hk
    injection e with e; subst e
    rw [Lib.bytesWorld_size]
    exact ⟨Nat.le_refl _, Nat.lt_succ_self _⟩, keep_bytesWorld w 5 _⟩

/-- stringToBytes of package stree -/
theorem stb_any (s : Bs) (w : World) (hs : s.length < 2 ^ 63) : Calls Tryz.prog 235 #[str s] w (MadeBytes w s) := by
  have hc := Lib.run_convert_string_bytes (P := Tryz.prog) w 9 37 5 ⟨s.toArray⟩ Tryz.underlying9 Tryz.underlying37 Tryz.underlying5
  have hfin := made_bytes w s hs
  rw [show (⟨s.toArray⟩ : ByteArray).size = s.length from by simp [ByteArray.size]] at hc
  have HF := Lib.hid hfin
  clear hfin
  go_enter Tryz.func235, Tryz.ntmps235
  go_wp2
  go_ret
  exact HF.out

/-- stringToBytes of package server -/
theorem stb2_any (s : Bs) (w : World) (hs : s.length < 2 ^ 63) : Calls Tryz.prog 96 #[str s] w (MadeBytes w s) := by
  have hc := Lib.run_convert_string_bytes (P := Tryz.prog) w 9 37 5 ⟨s.toArray⟩ Tryz.underlying9 Tryz.underlying37 Tryz.underlying5
  have hfin := made_bytes w s hs
  rw [show (⟨s.toArray⟩ : ByteArray).size = s.length from by simp [ByteArray.size]] at hc
  have HF := Lib.hid hfin
  clear hfin
  go_enter Tryz.func96, Tryz.ntmps96
  go_wp2
  go_ret
  exact HF.out

/-- the length of the common beginning -/
def cpl : Bs → Bs → Nat
  | a :: s, b :: t => if a = b then cpl s t + 1 else 0
  | _, _ => 0
theorem cpl_le : ∀ s t, cpl s t ≤ s.length ∧ cpl s t ≤ t.length
  | [], _ => by simp [cpl]
  | _ :: _, [] => by simp [cpl]
  | a :: s, b :: t => by
    have := cpl_le s t
    unfold cpl
    split <;> simp <;> omega
theorem cpl_take : ∀ s t : Bs, s.take (cpl s t) = t.take (cpl s t)
  | [], t => by simp [cpl]
  | _ :: _, [] => by simp [cpl]
  | a :: s, b :: t => by
    have := cpl_take s t
    unfold cpl
    split
    · rename_i h; subst h; simp [this]
    · simp
theorem cpl_pv : ∀ s t : Bs, s ≠ t → 127 ∉ s → 127 ∉ t → pv (s.drop (cpl s t)) ≠ pv (t.drop (cpl s t))
  | [], [], h, _, _ => absurd rfl h
  | [], b :: t, _, _, h2 => by simp [cpl, pv]; intro e; subst e; simp at h2
  | a :: s, [], _, h1, _ => by simp [cpl, pv]; intro e; subst e; simp at h1
  | a :: s, b :: t, h, h1, h2 => by
    unfold cpl
    split
    · rename_i e; subst e
      simp only [List.drop_succ_cons]
      exact cpl_pv s t (fun e => h (by rw [e])) (fun m => h1 (List.mem_cons_of_mem _ m)) (fun m => h2 (List.mem_cons_of_mem _ m))
    · rename_i e; simpa [pv] using e
/-- the first k bytes agree -/
def Agr (s t : Bs) (k : Nat) : Prop := s.take k = t.take k
theorem Agr.zero (s t : Bs) : Agr s t 0 := by simp [Agr]
theorem Agr.succ {s t : Bs} {k : Nat} (h : Agr s t k) (h1 : k < s.length) (h2 : k < t.length) (e : s[k] = t[k]) : Agr s t (k + 1) := by
  unfold Agr at *
  rw [List.take_succ_eq_append_getElem h1, List.take_succ_eq_append_getElem h2, h, e]
theorem cpl_of : ∀ (s t : Bs) (k : Nat), k ≤ s.length → k ≤ t.length → Agr s t k →
    (k = s.length ∨ k = t.length ∨ ∃ (h : k < s.length) (h' : k < t.length), s[k] ≠ t[k]) → cpl s t = k
  | [], t, k, hk, _, _, _ => by simp at hk; subst hk; simp [cpl]
  | _ :: _, [], k, _, hk, _, _ => by simp at hk; subst hk; simp [cpl]
  | a :: s, b :: t, 0, _, _, _, h => by
    rcases h with h | h | ⟨h, h', e⟩
    · simp at h
    · simp at h
    · simp at e; simp [cpl, e]
  | a :: s, b :: t, k + 1, h1, h2, hi, h => by
    simp only [Agr, List.take_succ_cons, List.cons.injEq] at hi
    obtain ⟨rfl, hi⟩ := hi
    have := cpl_of s t k (by simpa using h1) (by simpa using h2) hi (by
      rcases h with h | h | ⟨h, h', e⟩
      · exact .inl (by simpa using h)
      · exact .inr (.inl (by simpa using h))
      · exact .inr (.inr ⟨by simpa using h, by simpa using h', by simpa using e⟩))
    simp [cpl, this]

/-- commonPrefixLen -/
theorem cpl_any (A B : Option Addr) (n c m d : Nat) (s t : Bs) (w : World) (h : RowAt w 1 A n (s.map byteV)) (h' : RowAt w 1 B m (t.map byteV)) (hn : n ≤ maxLen) (hm : m ≤ maxLen) :
    Calls Tryz.prog 234 #[.slice A n c, .slice B m d] w fun e w' => e = .returned (.int .i64 (cpl s t)) ∧ ∃ k, w' = w.drewN k := by
  have hl : s.length = n := by simpa using h.1
  have hl' : t.length = m := by simpa using h'.1
  unfold maxLen at hn hm
  have H := Lib.hid h
  have H' := Lib.hid h'
  have L := Lib.hid hl
  have L' := Lib.hid hl'
  clear h h' hl hl'
  go_enter Tryz.func234, Tryz.ntmps234
  go_wp2
  all_goals
    go_loopw [6] (fun i wr => ∃ k q : Nat, k ≤ n ∧ k ≤ m ∧ i = .int .i64 k ∧ wr = w.drewN q ∧ Agr s t k) (fun i _ => n - (intOf i).toNat)
    case atStart => exact ⟨0, 0, by omega, by omega, rfl, rfl, Agr.zero s t⟩
    case round =>
      obtain ⟨k, q, hk1, hk2, rfl, rfl, hag⟩ := hrel
      have HA := Lib.hid hag
      clear hag
      by_cases hlt : k < n ∧ k < m
      · obtain ⟨h1, h2⟩ := hlt
        obtain ⟨b1, o1, rfl, l1, c1⟩ := row_cell H.out h1
        obtain ⟨b2, o2, rfl, l2, c2⟩ := row_cell H'.out h2
        by_cases e : s[k] = t[k]
        · have hag' := Lib.hid (HA.out.succ l1 l2 e)
          rw [e] at c1
          clear e
          generalize t[k] = x at *
          go_wp2
          go_quiet (fail)
          go_wp2
          go_roundw
          case rel => exact ⟨k + 1, _, by omega, by omega, by go_num, rfl, hag'.out⟩
          case measure => simp [intOf]; omega
        · have hfin := Lib.hid (cpl_of s t k (by omega) (by omega) HA.out (.inr (.inr ⟨l1, l2, e⟩)))
          have hne : ((s[k].toNat : Int) != (t[k].toNat : Int)) = true := by
            rw [bne_iff_ne]; intro h; exact e (UInt8.toNat_inj.1 (by omega))
          clear e
          generalize t[k] = x at *
          generalize s[k] = y at *
          go_wp2
          go_quiet (fail)
          go_wp2
          go_ret
          exact ⟨by rw [hfin.out]; rfl, _, World.drewN_drewN _ _ _⟩
      · have hl := L.out
        have hl' := L'.out
        have hfin := Lib.hid (cpl_of s t k (by omega) (by omega) HA.out (by omega))
        clear hl hl'
        go_wp2
        go_ret
        exact ⟨by rw [hfin.out]; rfl, _, rfl⟩

/-- a struct value's five cells -/
abbrev ss5 (a0 a1 a2 a3 a4 : Value) : Value := .agg #[a0, a1, a2, a3, a4]

/-- what newLeaf leaves: a new leaf -/
def MadeLeaf (w : World) (a0 a1 a2 a3 a4 : Value) (s : Bs) (e : Ending) (w' : World) : Prop :=
  ∃ b, e = .returned (.pointer (some ⟨b, 0, none⟩)) ∧ w.heap.size ≤ b ∧ Blk w' b 267 #[a0, a1, a2, a3, a4, str s] ∧ Keep NoB w w'

theorem newLeaf_any (A : Option Addr) (n c : Nat) (s : Bs) (x y z : Int) (p q : Bool) (w : World) (h : RowAt w 1 A n (s.map byteV)) :
    Calls Tryz.prog 233 #[.slice A n c, ss5 (.int .u64 x) (.int .u64 y) (.int .u64 z) (.bool p) (.bool q)] w (MadeLeaf w (.int .u64 x) (.int .u64 y) (.int .u64 z) (.bool p) (.bool q) s) := by
  have hc := fun o => conv_bs (w.alloc o) A n c s (h.keep (Keep.alloc (Keep.refl NoB w) o) (fun _ _ _ h => h))
  clear h
  go_enter Tryz.func233, Tryz.ntmps233
  go_wp2
  go_ret
  exact ⟨_, rfl, by omega, by simpa using Blk.new (w.alloc (.cells #[.int .u64 x, .int .u64 y, .int .u64 z, .bool p, .bool q] 112)) 267 #[.int .u64 x, .int .u64 y, .int .u64 z, .bool p, .bool q, str s],
    ((Keep.refl NoB w).alloc _).alloc _⟩

/-- setSuffix -/
theorem setSuffix_any (b : Nat) (A : Option Addr) (n c : Nat) (s : Bs) (u : Value) (w : World) (h : RowAt w 1 A n (s.map byteV)) (h5 : w.cell? ⟨b, 5, none⟩ = some u) (f5 : w.frozen? ⟨b, 5, none⟩ = false) :
    Calls Tryz.prog 237 #[.pointer (some ⟨b, 0, none⟩), .slice A n c] w fun e w' => e = .returned (.tuple #[]) ∧ w' = w.setCell ⟨b, 5, none⟩ (str s) := by
  have hc := conv_bs w A n c s h
  clear h
  go_enter Tryz.func237, Tryz.ntmps237
  go_wp2
  go_end0
  exact ⟨rfl, rfl⟩

/-- setPrefix, at the place of a node's meta -/
theorem setPrefix_any (b o : Nat) (A : Option Addr) (n c : Nat) (s : Bs) (u : Value) (w : World) (h : RowAt w 1 A n (s.map byteV)) (h5 : w.cell? ⟨b, o, none⟩ = some u) (f5 : w.frozen? ⟨b, o, none⟩ = false) :
    Calls Tryz.prog 268 #[.pointer (some ⟨b, o, none⟩), .slice A n c] w fun e w' => e = .returned (.tuple #[]) ∧ w' = w.setCell ⟨b, o, none⟩ (str s) := by
  have hc := conv_bs w A n c s h
  clear h
  go_enter Tryz.func268, Tryz.ntmps268
  go_wp2
  go_end0
  exact ⟨rfl, rfl⟩

/-- newNode4 -/
theorem newNode4_any (A : Option Addr) (n c : Nat) (s : Bs) (w : World) (h : RowAt w 1 A n (s.map byteV)) :
    Calls Tryz.prog 236 #[.slice A n c] w fun e w' => ∃ b, e = .returned (.pointer (some ⟨b, 0, none⟩)) ∧ w.heap.size ≤ b ∧
      Blk w' b 344 #[.nilIface, .nilIface, .nilIface, .nilIface, str s, .int .u16 0, .int .u8 0, .int .u8 0, .int .u8 0, .int .u8 0] ∧ Keep NoB w w' := by
  have hc := fun o => conv_bs (w.alloc o) A n c s (h.keep (Keep.alloc (Keep.refl NoB w) o) (fun _ _ _ h => h))
  clear h
  go_enter Tryz.func236, Tryz.ntmps236
  go_wp2
  go_end0
  go_wp2
  go_ret
  exact ⟨_, rfl, Nat.le_refl _, Blk.new w _ _, (Keep.refl NoB w).alloc _⟩

theorem meta_base (b o : Nat) (w : World) : Calls Tryz.prog 341 #[.pointer (some ⟨b, o, none⟩)] w fun e w' => e = .returned (.pointer (some ⟨b, o, none⟩)) ∧ w = w' := by
  go_enter Tryz.func341, Tryz.ntmps341
  go_wp2
  go_ret
  exact ⟨rfl, rfl⟩

theorem meta_isLeaf (v : Value) (w : World) : Calls Tryz.prog 342 #[v] w fun e w' => e = .returned (.bool false) ∧ w = w' := by
  go_enter Tryz.func342, Tryz.ntmps342
  go_wp2
  go_ret
  exact ⟨rfl, rfl⟩

theorem leaf_isLeaf (v : Value) (w : World) : Calls Tryz.prog 334 #[v] w fun e w' => e = .returned (.bool true) ∧ w = w' := by
  go_enter Tryz.func334, Tryz.ntmps334
  go_wp2
  go_ret
  exact ⟨rfl, rfl⟩

end Go.Proofs.YtmblkpjnafgplaaGreatDoor

namespace Go.Proofs.YtmblkpjnafgplaaGreatDoor
open Go Go.RowKit
set_option linter.unusedVariables false
set_option linter.unusedSimpArgs false

theorem cellOf {w : World} {b i : Nat} {t : TypeId} {C : Array Value} {v : Value} (hb : Blk w b t C) (h : C[i]? = some v) : w.cell? ⟨b, i, none⟩ = some v := (hb.cell i).trans h
theorem someAt {C : Array Value} {i n : Nat} (h : C.size = n) (hi : i < n) : ∃ v, C[i]? = some v := ⟨C[i]'(by omega), by simp [show i < C.size by omega]⟩
theorem u8lt (x : UInt8) : x.toNat < 256 := x.toNat_lt

/-- the cells behind addChild -/
def addC (k : NK) (n : Nat) (x : UInt8) (v : Value) (C : Array Value) : Array Value :=
  ((C.setIfInBounds (k.cap + 2 + (if k = .n48 then x.toNat else n)) (if k = .n48 then .int .u8 ((n : Int) + 1) else byteV x)).setIfInBounds n v).setIfInBounds (k.cap + 1) (.int .u16 ((n : Int) + 1))

theorem addC_other (k : NK) (n : Nat) (x : UInt8) (v : Value) (C : Array Value) (i : Nat) (h1 : i ≠ k.cap + 2 + (if k = .n48 then x.toNat else n)) (h2 : i ≠ n) (h3 : i ≠ k.cap + 1) :
    (addC k n x v C)[i]? = C[i]? := by
  unfold addC
  rw [Array.getElem?_setIfInBounds_ne (Ne.symm h3), Array.getElem?_setIfInBounds_ne (Ne.symm h2), Array.getElem?_setIfInBounds_ne (Ne.symm h1)]

theorem NK.small (k : NK) : k.cap ≤ k.keys := by cases k <;> decide

theorem InnerC.add {k : NK} {p : Bs} {ks : List Kid} {C : Array Value} (h : InnerC k p ks C) (c : Kid) (hlt : ks.length < k.cap) (hne : ∀ d ∈ ks, d.key ≠ c.key) :
    InnerC k p (ks ++ [c]) (addC k ks.length c.key c.val C) := by
  have hz := h.size
  have hsm := k.small
  have hx := u8lt c.key
  have hk8 : k = .n48 → k.keys = 256 := by rintro rfl; rfl
  have hbig : k.cap + 2 + (if k = .n48 then c.key.toNat else ks.length) < C.size := by
    split
    · rename_i e; have := hk8 e; omega
    · omega
  have hks : ∀ (i : Nat) (d : Kid), (ks ++ [c])[i]? = some d → (i < ks.length ∧ ks[i]? = some d) ∨ (i = ks.length ∧ d = c) := by
    intro i d hd
    rcases Nat.lt_trichotomy i ks.length with hi | hi | hi
    · exact .inl ⟨hi, by rwa [List.getElem?_append_left hi] at hd⟩
    · subst hi; simp at hd; exact .inr ⟨rfl, hd.symm⟩
    · rw [List.getElem?_append_right (by omega)] at hd
      rw [List.getElem?_eq_none (by simp; omega)] at hd; cases hd
  refine ⟨?_, ?_, ?_, ?_, ?_, ?_, ?_, ?_⟩
  · simp [addC, hz]
  · simp; omega
  · rw [addC_other _ _ _ _ _ _ (by omega) (by omega) (by omega)]; exact h.pre
  · unfold addC
    rw [Array.getElem?_setIfInBounds_self_of_lt (by simp; omega)]
    simp
  · intro i d hd
    rcases hks i d hd with ⟨hi, hd'⟩ | ⟨rfl, rfl⟩
    · rw [addC_other _ _ _ _ _ _ (by omega) (by omega) (by omega)]; exact h.kid i d hd'
    · unfold addC
      rw [Array.getElem?_setIfInBounds_ne (by omega), Array.getElem?_setIfInBounds_self_of_lt (by simp; omega)]
  · intro hk i d hd
    rcases hks i d hd with ⟨hi, hd'⟩ | ⟨rfl, rfl⟩
    · rw [addC_other _ _ _ _ _ _ (by rw [if_neg hk]; omega) (by omega) (by omega)]; exact h.key hk i d hd'
    · unfold addC
      rw [if_neg hk, if_neg hk, Array.getElem?_setIfInBounds_ne (by omega), Array.getElem?_setIfInBounds_ne (by omega), Array.getElem?_setIfInBounds_self_of_lt (by rw [if_neg hk] at hbig; omega)]
  · intro hk i d hd
    rcases hks i d hd with ⟨hi, hd'⟩ | ⟨rfl, rfl⟩
    · have hne' := hne d (List.mem_of_getElem? hd')
      rw [addC_other _ _ _ _ _ _ (by rw [if_pos hk]; intro e; exact hne' (UInt8.toNat_inj.1 (by omega))) (by omega) (by omega)]; exact h.key8 hk i d hd'
    · unfold addC
      rw [if_pos hk, if_pos hk, Array.getElem?_setIfInBounds_ne (by omega), Array.getElem?_setIfInBounds_ne (by omega), Array.getElem?_setIfInBounds_self_of_lt (by rw [if_pos hk] at hbig; omega)]
  · intro hk x hx'
    have hnx : c.key ≠ x := hx' c (by simp)
    rw [addC_other _ _ _ _ _ _ (by rw [if_pos hk]; intro e; exact hnx (UInt8.toNat_inj.1 (by omega))) (by omega) (by omega)]
    exact h.no8 hk x (fun d hd => hx' d (by simp [hd]))

theorem blk_sets {w : World} {b i j l m : Nat} {t : TypeId} {C : Array Value} {u v x : Value} (hb : Blk w b t C) :
    Blk ((((w.setCell ⟨b, i, none⟩ u).setCell ⟨b, j, none⟩ v).setCell ⟨b, l, none⟩ x).drewN m) b t (((C.setIfInBounds i u).setIfInBounds j v).setIfInBounds l x) :=
  ((hb.set_ i u).set_ j v).set_ l x
theorem keep_sets {w : World} {b i j l m : Nat} {u v x : Value} :
    Keep (fun k => k = b) w ((((w.setCell ⟨b, i, none⟩ u).setCell ⟨b, j, none⟩ v).setCell ⟨b, l, none⟩ x).drewN m) :=
  ((((Keep.refl (fun k => k = b) w).setCell (p := ⟨b, i, none⟩) (fun _ => rfl) u).setCell (p := ⟨b, j, none⟩) (fun _ => rfl) v).setCell (p := ⟨b, l, none⟩) (fun _ => rfl) x).drewN m

/-- what addChild leaves -/
def Added (k : NK) (b : Nat) (C : Array Value) (n : Nat) (x : UInt8) (v : Value) (w : World) (e : Ending) (w' : World) : Prop :=
  e = .returned (.tuple #[]) ∧ Blk w' b k.ty (addC k n x v C) ∧ Keep (fun j => j = b) w w'


set_option maxHeartbeats 1000000 in
theorem add_n4 (b n : Nat) (x : UInt8) (t : TypeId) (u : Value) (p : Bs) (ks : List Kid) (C : Array Value) (w : World) (hb : Blk w b 344 C) (hC : InnerC .n4 p ks C) (hlt : n < 4) (hn : n = ks.length) :
    Calls Tryz.prog 238 #[.pointer (some ⟨b, 0, none⟩), byteV x, .iface t u] w (Added .n4 b C n x (.iface t u) w) := by
  have hx := u8lt x
  have hz : C.size = 10 := hC.size
  have c5 : w.cell? ⟨b, 5, none⟩ = some (.int .u16 (n : Int)) := by rw [hn]; exact cellOf hb hC.num
  obtain ⟨k0, e0⟩ := someAt hz (i := 6 + n) (by omega)
  obtain ⟨v0, e1⟩ := someAt hz (i := n) (by omega)
  have ck := cellOf hb e0
  have cv := cellOf hb e1
  have f5 := hb.frozen 5
  have fk := hb.frozen (6 + n)
  have fc := hb.frozen n
  have hfin : ∀ m, Added .n4 b C n x (.iface t u) w (.returned (.tuple #[])) (((((w.setCell ⟨b, 6 + n, none⟩ (byteV x)).setCell ⟨b, n, none⟩ (.iface t u))).setCell ⟨b, 5, none⟩ (.int .u16 ((n : Int) + 1))).drewN m) :=
    fun m => ⟨rfl, blk_sets hb, keep_sets⟩
  have HF := Lib.hid hfin
  clear hfin hb hC hn hz e0 e1
  go_enter Tryz.func238, Tryz.ntmps238
  go_wp2
  go_region
  go_wp2
  go_region
  go_wp2
  go_end0
  exact HF.out 2

set_option maxHeartbeats 1000000 in
theorem add_n10 (b n : Nat) (x : UInt8) (t : TypeId) (u : Value) (p : Bs) (ks : List Kid) (C : Array Value) (w : World) (hb : Blk w b 387 C) (hC : InnerC .n10 p ks C) (hlt : n < 10) (hn : n = ks.length) :
    Calls Tryz.prog 355 #[.pointer (some ⟨b, 0, none⟩), byteV x, .iface t u] w (Added .n10 b C n x (.iface t u) w) := by
  have hx := u8lt x
  have hz : C.size = 22 := hC.size
  have c5 : w.cell? ⟨b, 11, none⟩ = some (.int .u16 (n : Int)) := by rw [hn]; exact cellOf hb hC.num
  obtain ⟨k0, e0⟩ := someAt hz (i := 12 + n) (by omega)
  obtain ⟨v0, e1⟩ := someAt hz (i := n) (by omega)
  have ck := cellOf hb e0
  have cv := cellOf hb e1
  have f5 := hb.frozen 11
  have fk := hb.frozen (12 + n)
  have fc := hb.frozen n
  have hfin : ∀ m, Added .n10 b C n x (.iface t u) w (.returned (.tuple #[])) (((((w.setCell ⟨b, 12 + n, none⟩ (byteV x)).setCell ⟨b, n, none⟩ (.iface t u))).setCell ⟨b, 11, none⟩ (.int .u16 ((n : Int) + 1))).drewN m) :=
    fun m => ⟨rfl, blk_sets hb, keep_sets⟩
  have HF := Lib.hid hfin
  clear hfin hb hC hn hz e0 e1
  go_enter Tryz.func355, Tryz.ntmps355
  go_wp2
  go_region
  go_wp2
  go_region
  go_wp2
  go_end0
  exact HF.out 2

set_option maxHeartbeats 1000000 in
theorem add_n16 (b n : Nat) (x : UInt8) (t : TypeId) (u : Value) (p : Bs) (ks : List Kid) (C : Array Value) (w : World) (hb : Blk w b 393 C) (hC : InnerC .n16 p ks C) (hlt : n < 16) (hn : n = ks.length) :
    Calls Tryz.prog 365 #[.pointer (some ⟨b, 0, none⟩), byteV x, .iface t u] w (Added .n16 b C n x (.iface t u) w) := by
  have hx := u8lt x
  have hz : C.size = 34 := hC.size
  have c5 : w.cell? ⟨b, 17, none⟩ = some (.int .u16 (n : Int)) := by rw [hn]; exact cellOf hb hC.num
  obtain ⟨k0, e0⟩ := someAt hz (i := 18 + n) (by omega)
  obtain ⟨v0, e1⟩ := someAt hz (i := n) (by omega)
  have ck := cellOf hb e0
  have cv := cellOf hb e1
  have f5 := hb.frozen 17
  have fk := hb.frozen (18 + n)
  have fc := hb.frozen n
  have hfin : ∀ m, Added .n16 b C n x (.iface t u) w (.returned (.tuple #[])) (((((w.setCell ⟨b, 18 + n, none⟩ (byteV x)).setCell ⟨b, n, none⟩ (.iface t u))).setCell ⟨b, 17, none⟩ (.int .u16 ((n : Int) + 1))).drewN m) :=
    fun m => ⟨rfl, blk_sets hb, keep_sets⟩
  have HF := Lib.hid hfin
  clear hfin hb hC hn hz e0 e1
  go_enter Tryz.func365, Tryz.ntmps365
  go_wp2
  go_region
  go_wp2
  go_region
  go_wp2
  go_end0
  exact HF.out 2

set_option maxHeartbeats 1000000 in
theorem add_n48 (b n : Nat) (x : UInt8) (t : TypeId) (u : Value) (p : Bs) (ks : List Kid) (C : Array Value) (w : World) (hb : Blk w b 397 C) (hC : InnerC .n48 p ks C) (hlt : n < 48) (hn : n = ks.length) :
    Calls Tryz.prog 374 #[.pointer (some ⟨b, 0, none⟩), byteV x, .iface t u] w (Added .n48 b C n x (.iface t u) w) := by
  have hx := u8lt x
  have hz : C.size = 306 := hC.size
  have c5 : w.cell? ⟨b, 49, none⟩ = some (.int .u16 (n : Int)) := by rw [hn]; exact cellOf hb hC.num
  obtain ⟨k0, e0⟩ := someAt hz (i := 50 + x.toNat) (by omega)
  obtain ⟨v0, e1⟩ := someAt hz (i := n) (by omega)
  have ck := cellOf hb e0
  have cv := cellOf hb e1
  have f5 := hb.frozen 49
  have fk := hb.frozen (50 + x.toNat)
  have fc := hb.frozen n
  have hfin : ∀ m, Added .n48 b C n x (.iface t u) w (.returned (.tuple #[])) (((((w.setCell ⟨b, n, none⟩ (.iface t u)).setCell ⟨b, 50 + x.toNat, none⟩ (.int .u8 ((n : Int) + 1)))).setCell ⟨b, 49, none⟩ (.int .u16 ((n : Int) + 1))).drewN m) :=
    fun m => ⟨rfl, by rw [show addC .n48 n x (.iface t u) C = ((C.setIfInBounds n (.iface t u)).setIfInBounds (50 + x.toNat) (.int .u8 ((n : Int) + 1))).setIfInBounds 49 (.int .u16 ((n : Int) + 1)) from congrArg (fun D => Array.setIfInBounds D 49 (Value.int .u16 ((n : Int) + 1))) (Array.setIfInBounds_comm _ _ (show 50 + x.toNat ≠ n by omega))]; exact blk_sets hb, keep_sets⟩
  have HF := Lib.hid hfin
  clear hfin hb hC hn hz e0 e1
  go_enter Tryz.func374, Tryz.ntmps374
  go_wp2
  go_region
  go_wp2
  go_region
  go_wp2
  go_end0
  exact HF.out 2

theorem add_any (k : NK) (b : Nat) (x : UInt8) (t : TypeId) (u : Value) (p : Bs) (ks : List Kid) (C : Array Value) (w : World) (hb : Blk w b k.ty C) (hC : InnerC k p ks C) (hlt : ks.length < k.cap) :
    Calls Tryz.prog k.fAdd #[.pointer (some ⟨b, 0, none⟩), byteV x, .iface t u] w (Added k b C ks.length x (.iface t u) w) := by
  cases k
  · exact add_n4 b ks.length x t u p ks C w hb hC hlt rfl
  · exact add_n10 b ks.length x t u p ks C w hb hC hlt rfl
  · exact add_n16 b ks.length x t u p ks C w hb hC hlt rfl
  · exact add_n48 b ks.length x t u p ks C w hb hC hlt rfl

/-- what findChild answers -/
def Found (b : Nat) (ks : List Kid) (x : UInt8) (w : World) (e : Ending) (w' : World) : Prop :=
  w = w' ∧ ((∃ i c, ks[i]? = some c ∧ c.key = x ∧ e = .returned (.pointer (some ⟨b, i, none⟩))) ∨ ((∀ c ∈ ks, c.key ≠ x) ∧ e = .returned (.pointer none)))

/-- no key among the first k -/
def NoKey (ks : List Kid) (x : UInt8) (k : Nat) : Prop := ∀ (i : Nat) (c : Kid), ks[i]? = some c → i < k → c.key ≠ x
theorem NoKey.zero (ks : List Kid) (x : UInt8) : NoKey ks x 0 := fun _ _ _ h => absurd h (by omega)
theorem NoKey.succ {ks : List Kid} {x : UInt8} {k : Nat} {c : Kid} (h : NoKey ks x k) (hc : ks[k]? = some c) (hne : c.key ≠ x) : NoKey ks x (k + 1) := by
  intro i d hd hi
  rcases Nat.lt_or_ge i k with h' | h'
  · exact h i d hd h'
  · obtain rfl : i = k := by omega
    rw [hc] at hd; injection hd with hd; subst hd; exact hne
theorem NoKey.all {ks : List Kid} {x : UInt8} {k : Nat} (h : NoKey ks x k) (hk : ks.length ≤ k) : ∀ c ∈ ks, c.key ≠ x := by
  intro c hc
  obtain ⟨i, hi, rfl⟩ := List.mem_iff_getElem.1 hc
  exact h i _ (List.getElem?_eq_getElem hi) (by omega)
theorem byte_ne {x y : UInt8} (h : x ≠ y) : ((x.toNat : Int) == (y.toNat : Int)) = false := by
  rw [beq_eq_false_iff_ne]; intro e; exact h (UInt8.toNat_inj.1 (by omega))

theorem full_n4 (b : Nat) (p : Bs) (ks : List Kid) (C : Array Value) (w : World) (hb : Blk w b 344 C) (hC : InnerC .n4 p ks C) :
    Calls Tryz.prog 351 #[.pointer (some ⟨b, 0, none⟩)] w fun e w' => e = .returned (.bool (decide (4 ≤ ks.length))) ∧ w = w' := by
  have c5 : w.cell? ⟨b, 5, none⟩ = some (.int .u16 (ks.length : Int)) := cellOf hb hC.num
  have hf : ks.length ≤ 4 := hC.few
  generalize ks.length = n at *
  clear hb hC
  go_enter Tryz.func351, Tryz.ntmps351
  go_wp2
  go_ret
  exact ⟨by simp; omega, rfl⟩

set_option maxHeartbeats 1000000 in
theorem find_n4 (b : Nat) (x : UInt8) (p : Bs) (ks : List Kid) (C : Array Value) (w : World) (hb : Blk w b 344 C) (hC : InnerC .n4 p ks C) :
    Calls Tryz.prog 349 #[.pointer (some ⟨b, 0, none⟩), byteV x] w (Found b ks x w) := by
  have c5 : w.cell? ⟨b, 5, none⟩ = some (.int .u16 (ks.length : Int)) := cellOf hb hC.num
  have hf : ks.length ≤ 4 := hC.few
  have HB := Lib.hid hb
  have HC := Lib.hid hC
  clear hb hC
  go_enter Tryz.func349, Tryz.ntmps349
  go_wp2
  go_loop [5] (fun i => ∃ k : Nat, k ≤ ks.length ∧ i = .int .u16 k ∧ NoKey ks x k) (fun i => ks.length - (intOf i).toNat)
  case atStart => exact ⟨0, by omega, rfl, NoKey.zero ks x⟩
  case round =>
    obtain ⟨k, hk, rfl, hno⟩ := hrel
    have HN := Lib.hid hno
    clear hno
    by_cases hlt : k < ks.length
    · have hgk : ks[k]? = some ks[k] := List.getElem?_eq_getElem hlt
      have ck := cellOf HB.out (HC.out.key (by decide) k _ hgk)
      by_cases e : ks[k].key = x
      · have hfin : Found b ks x w (.returned (.pointer (some ⟨b, k, none⟩))) w := ⟨rfl, .inl ⟨k, ks[k], hgk, e, rfl⟩⟩
        have HF := Lib.hid hfin
        rw [e] at ck
        clear hfin e hgk
        change w.cell? ⟨b, 6 + k, none⟩ = _ at ck
        go_wp2
        go_ret
        exact HF.out
      · have hb' := byte_ne e
        have HS := Lib.hid (HN.out.succ hgk e)
        change w.cell? ⟨b, 6 + k, none⟩ = _ at ck
        clear hgk e
        generalize ks[k].key = y at *
        go_wp2
        go_round
        case rel => exact ⟨k + 1, by omega, by go_num, HS.out⟩
        case measure => simp [intOf]; omega
    · have hfin : Found b ks x w (.returned (.pointer none)) w := ⟨rfl, .inr ⟨HN.out.all (by omega), rfl⟩⟩
      have HF := Lib.hid hfin
      clear hfin
      go_wp2
      go_ret
      exact HF.out

theorem full_n10 (b : Nat) (p : Bs) (ks : List Kid) (C : Array Value) (w : World) (hb : Blk w b 387 C) (hC : InnerC .n10 p ks C) :
    Calls Tryz.prog 361 #[.pointer (some ⟨b, 0, none⟩)] w fun e w' => e = .returned (.bool (decide (10 ≤ ks.length))) ∧ w = w' := by
  have c5 : w.cell? ⟨b, 11, none⟩ = some (.int .u16 (ks.length : Int)) := cellOf hb hC.num
  have hf : ks.length ≤ 10 := hC.few
  generalize ks.length = n at *
  clear hb hC
  go_enter Tryz.func361, Tryz.ntmps361
  go_wp2
  go_ret
  exact ⟨by simp; omega, rfl⟩

set_option maxHeartbeats 1000000 in
theorem find_n10 (b : Nat) (x : UInt8) (p : Bs) (ks : List Kid) (C : Array Value) (w : World) (hb : Blk w b 387 C) (hC : InnerC .n10 p ks C) :
    Calls Tryz.prog 359 #[.pointer (some ⟨b, 0, none⟩), byteV x] w (Found b ks x w) := by
  have c5 : w.cell? ⟨b, 11, none⟩ = some (.int .u16 (ks.length : Int)) := cellOf hb hC.num
  have hf : ks.length ≤ 10 := hC.few
  have HB := Lib.hid hb
  have HC := Lib.hid hC
  clear hb hC
  go_enter Tryz.func359, Tryz.ntmps359
  go_wp2
  go_loop [5] (fun i => ∃ k : Nat, k ≤ ks.length ∧ i = .int .u16 k ∧ NoKey ks x k) (fun i => ks.length - (intOf i).toNat)
  case atStart => exact ⟨0, by omega, rfl, NoKey.zero ks x⟩
  case round =>
    obtain ⟨k, hk, rfl, hno⟩ := hrel
    have HN := Lib.hid hno
    clear hno
    by_cases hlt : k < ks.length
    · have hgk : ks[k]? = some ks[k] := List.getElem?_eq_getElem hlt
      have ck := cellOf HB.out (HC.out.key (by decide) k _ hgk)
      by_cases e : ks[k].key = x
      · have hfin : Found b ks x w (.returned (.pointer (some ⟨b, k, none⟩))) w := ⟨rfl, .inl ⟨k, ks[k], hgk, e, rfl⟩⟩
        have HF := Lib.hid hfin
        rw [e] at ck
        clear hfin e hgk
        change w.cell? ⟨b, 12 + k, none⟩ = _ at ck
        go_wp2
        go_ret
        exact HF.out
      · have hb' := byte_ne e
        have HS := Lib.hid (HN.out.succ hgk e)
        change w.cell? ⟨b, 12 + k, none⟩ = _ at ck
        clear hgk e
        generalize ks[k].key = y at *
        go_wp2
        go_round
        case rel => exact ⟨k + 1, by omega, by go_num, HS.out⟩
        case measure => simp [intOf]; omega
    · have hfin : Found b ks x w (.returned (.pointer none)) w := ⟨rfl, .inr ⟨HN.out.all (by omega), rfl⟩⟩
      have HF := Lib.hid hfin
      clear hfin
      go_wp2
      go_ret
      exact HF.out

theorem full_n16 (b : Nat) (p : Bs) (ks : List Kid) (C : Array Value) (w : World) (hb : Blk w b 393 C) (hC : InnerC .n16 p ks C) :
    Calls Tryz.prog 370 #[.pointer (some ⟨b, 0, none⟩)] w fun e w' => e = .returned (.bool (decide (16 ≤ ks.length))) ∧ w = w' := by
  have c5 : w.cell? ⟨b, 17, none⟩ = some (.int .u16 (ks.length : Int)) := cellOf hb hC.num
  have hf : ks.length ≤ 16 := hC.few
  generalize ks.length = n at *
  clear hb hC
  go_enter Tryz.func370, Tryz.ntmps370
  go_wp2
  go_ret
  exact ⟨by simp; omega, rfl⟩

set_option maxHeartbeats 1000000 in
theorem find_n16 (b : Nat) (x : UInt8) (p : Bs) (ks : List Kid) (C : Array Value) (w : World) (hb : Blk w b 393 C) (hC : InnerC .n16 p ks C) :
    Calls Tryz.prog 368 #[.pointer (some ⟨b, 0, none⟩), byteV x] w (Found b ks x w) := by
  have c5 : w.cell? ⟨b, 17, none⟩ = some (.int .u16 (ks.length : Int)) := cellOf hb hC.num
  have hf : ks.length ≤ 16 := hC.few
  have HB := Lib.hid hb
  have HC := Lib.hid hC
  clear hb hC
  go_enter Tryz.func368, Tryz.ntmps368
  go_wp2
  go_loop [5] (fun i => ∃ k : Nat, k ≤ ks.length ∧ i = .int .u16 k ∧ NoKey ks x k) (fun i => ks.length - (intOf i).toNat)
  case atStart => exact ⟨0, by omega, rfl, NoKey.zero ks x⟩
  case round =>
    obtain ⟨k, hk, rfl, hno⟩ := hrel
    have HN := Lib.hid hno
    clear hno
    by_cases hlt : k < ks.length
    · have hgk : ks[k]? = some ks[k] := List.getElem?_eq_getElem hlt
      have ck := cellOf HB.out (HC.out.key (by decide) k _ hgk)
      by_cases e : ks[k].key = x
      · have hfin : Found b ks x w (.returned (.pointer (some ⟨b, k, none⟩))) w := ⟨rfl, .inl ⟨k, ks[k], hgk, e, rfl⟩⟩
        have HF := Lib.hid hfin
        rw [e] at ck
        clear hfin e hgk
        change w.cell? ⟨b, 18 + k, none⟩ = _ at ck
        go_wp2
        go_ret
        exact HF.out
      · have hb' := byte_ne e
        have HS := Lib.hid (HN.out.succ hgk e)
        change w.cell? ⟨b, 18 + k, none⟩ = _ at ck
        clear hgk e
        generalize ks[k].key = y at *
        go_wp2
        go_round
        case rel => exact ⟨k + 1, by omega, by go_num, HS.out⟩
        case measure => simp [intOf]; omega
    · have hfin : Found b ks x w (.returned (.pointer none)) w := ⟨rfl, .inr ⟨HN.out.all (by omega), rfl⟩⟩
      have HF := Lib.hid hfin
      clear hfin
      go_wp2
      go_ret
      exact HF.out

theorem full_n48 (b : Nat) (p : Bs) (ks : List Kid) (C : Array Value) (w : World) (hb : Blk w b 397 C) (hC : InnerC .n48 p ks C) :
    Calls Tryz.prog 380 #[.pointer (some ⟨b, 0, none⟩)] w fun e w' => e = .returned (.bool (decide (48 ≤ ks.length))) ∧ w = w' := by
  have c5 : w.cell? ⟨b, 49, none⟩ = some (.int .u16 (ks.length : Int)) := cellOf hb hC.num
  have hf : ks.length ≤ 48 := hC.few
  generalize ks.length = n at *
  clear hb hC
  go_enter Tryz.func380, Tryz.ntmps380
  go_wp2
  go_ret
  exact ⟨by simp; omega, rfl⟩

theorem key48 {ks : List Kid} {x : UInt8} (h : ¬ ∀ c ∈ ks, c.key ≠ x) : ∃ (i : Nat) (c : Kid), ks[i]? = some c ∧ c.key = x := by
  simp only [ne_eq, Classical.not_forall, Decidable.not_not] at h
  obtain ⟨c, hc, e⟩ := h
  obtain ⟨i, hi, rfl⟩ := List.mem_iff_getElem.1 hc
  exact ⟨i, _, List.getElem?_eq_getElem hi, e⟩
set_option maxHeartbeats 1000000 in
theorem find_n48 (b : Nat) (x : UInt8) (p : Bs) (ks : List Kid) (C : Array Value) (w : World) (hb : Blk w b 397 C) (hC : InnerC .n48 p ks C) :
    Calls Tryz.prog 378 #[.pointer (some ⟨b, 0, none⟩), byteV x] w (Found b ks x w) := by
  have hx := u8lt x
  by_cases hex : ∀ c ∈ ks, c.key ≠ x
  · have hfin : Found b ks x w (.returned (.pointer none)) w := ⟨rfl, .inr ⟨hex, rfl⟩⟩
    have ck : w.cell? ⟨b, 50 + x.toNat, none⟩ = some (.int .u8 0) := cellOf hb (hC.no8 rfl x hex)
    have HF := Lib.hid hfin
    clear hfin hex hb hC
    go_enter Tryz.func378, Tryz.ntmps378
    go_wp2
    go_ret
    exact HF.out
  · obtain ⟨i, c, hi, hc⟩ := key48 hex
    have hil : i < 48 := by
      have h1 := hC.few
      have h2 : i < ks.length := (List.getElem?_eq_some_iff.1 hi).1
      change _ ≤ 48 at h1
      omega
    have hfin : Found b ks x w (.returned (.pointer (some ⟨b, i, none⟩))) w := ⟨rfl, .inl ⟨i, c, hi, hc, rfl⟩⟩
    have ck : w.cell? ⟨b, 50 + x.toNat, none⟩ = some (.int .u8 ((i : Int) + 1)) := by have := cellOf hb (hC.key8 rfl i c hi); rw [hc] at this; exact this
    have hne : (((i : Int) + 1) == 0) = false := by rw [beq_eq_false_iff_ne]; omega
    have HF := Lib.hid hfin
    clear hfin hex hb hC hi hc
    go_enter Tryz.func378, Tryz.ntmps378
    go_wp2
    go_ret
    exact HF.out

theorem full_any (k : NK) (b : Nat) (p : Bs) (ks : List Kid) (C : Array Value) (w : World) (hb : Blk w b k.ty C) (hC : InnerC k p ks C) :
    Calls Tryz.prog k.fFull #[.pointer (some ⟨b, 0, none⟩)] w fun e w' => e = .returned (.bool (decide (k.cap ≤ ks.length))) ∧ w = w' := by
  cases k
  · exact full_n4 b p ks C w hb hC
  · exact full_n10 b p ks C w hb hC
  · exact full_n16 b p ks C w hb hC
  · exact full_n48 b p ks C w hb hC
theorem find_any (k : NK) (b : Nat) (x : UInt8) (p : Bs) (ks : List Kid) (C : Array Value) (w : World) (hb : Blk w b k.ty C) (hC : InnerC k p ks C) :
    Calls Tryz.prog k.fFind #[.pointer (some ⟨b, 0, none⟩), byteV x] w (Found b ks x w) := by
  cases k
  · exact find_n4 b x p ks C w hb hC
  · exact find_n10 b x p ks C w hb hC
  · exact find_n16 b x p ks C w hb hC
  · exact find_n48 b x p ks C w hb hC

end Go.Proofs.YtmblkpjnafgplaaGreatDoor

namespace Go.Proofs.YtmblkpjnafgplaaGreatDoor
open Go Go.RowKit
set_option linter.unusedVariables false
set_option linter.unusedSimpArgs false

theorem InnerC.made (k : NK) (p : Bs) (C : Array Value) (hz : C.size = k.cap + 2 + k.keys) (hp : C[k.cap]? = some (str p)) (hn : C[k.cap + 1]? = some (.int .u16 0))
    (h8 : k = .n48 → ∀ i, i < 256 → C[k.cap + 2 + i]? = some (.int .u8 0)) : InnerC k p [] C :=
  ⟨hz, by simp, hp, hn, by simp, by simp, by simp, fun hk x _ => h8 hk _ x.toNat_lt⟩

theorem InnerC.pre' {k : NK} {p q : Bs} {ks : List Kid} {C : Array Value} (h : InnerC k p ks C) : InnerC k q ks (C.setIfInBounds k.cap (str q)) := by
  have hz := h.size
  have hsm := k.small
  have hf := h.few
  have hlt : ∀ (i : Nat) (c : Kid), ks[i]? = some c → i < ks.length := fun i c hc => (List.getElem?_eq_some_iff.1 hc).1
  refine ⟨by simpa using hz, h.few, Array.getElem?_setIfInBounds_self_of_lt (by omega), ?_, ?_, ?_, ?_, ?_⟩
  · rw [Array.getElem?_setIfInBounds_ne (by omega)]; exact h.num
  · intro i c hc
    have := hlt i c hc
    rw [Array.getElem?_setIfInBounds_ne (by omega)]; exact h.kid i c hc
  · intro hk i c hc; rw [Array.getElem?_setIfInBounds_ne (by omega)]; exact h.key hk i c hc
  · intro hk i c hc; rw [Array.getElem?_setIfInBounds_ne (by omega)]; exact h.key8 hk i c hc
  · intro hk x hx; rw [Array.getElem?_setIfInBounds_ne (by omega)]; exact h.no8 hk x hx

/-- what grow leaves: a new node of the next kind, with the same children -/
def Grew (k' : NK) (p : Bs) (ks : List Kid) (w : World) (e : Ending) (w' : World) : Prop :=
  ∃ b' D, e = .returned (.iface k'.tp (.pointer (some ⟨b', 0, none⟩))) ∧ w.heap.size ≤ b' ∧ Blk w' b' k'.ty D ∧ InnerC k' p ks D ∧ Keep NoB w w'

theorem take_fresh {ks : List Kid} (hd : (ks.map Kid.key).Nodup) {k : Nat} (hk : k < ks.length) : ∀ d ∈ ks.take k, d.key ≠ ks[k].key := by
  intro d hd' e
  obtain ⟨i, hi, rfl⟩ := List.mem_iff_getElem.1 hd'
  simp at hi
  have := List.pairwise_iff_getElem.1 hd i k (by simp; omega) (by simpa using hk) (by omega)
  apply this
  simpa using e

theorem zero48 : Tryz.zeroCells397.toList = List.replicate 48 Value.nilIface ++ (str [] :: .int .u16 0 :: List.replicate 256 (.int .u8 0)) := by kernel_rfl
theorem zero48_key {i : Nat} (hi : i < 256) (v : Value) : (Tryz.zeroCells397.setIfInBounds 48 v)[50 + i]? = some (.int .u8 0) := by
  rw [Array.getElem?_setIfInBounds_ne (by omega), ← Array.getElem?_toList, zero48, List.getElem?_append_right (by simp; omega)]
  simp only [List.length_replicate]
  rw [show 50 + i - 48 = i + 2 from by omega, List.getElem?_cons_succ, List.getElem?_cons_succ, List.getElem?_replicate, if_pos hi]

/-- the state of grow's loop -/
def GrowAt (k k' : NK) (p : Bs) (ks : List Kid) (b b' : Nat) (C : Array Value) (w : World) (i : Nat) (wr : World) : Prop :=
  ∃ D, Blk wr b k.ty C ∧ Blk wr b' k'.ty D ∧ InnerC k' p (ks.take i) D ∧ Keep NoB w wr

theorem GrowAt.step {k k' : NK} {p : Bs} {ks : List Kid} {b b' : Nat} {C : Array Value} {w wr w1 : World} {i : Nat} {D : Array Value} {e : Ending}
    (h1 : Blk wr b k.ty C) (h2 : Blk wr b' k'.ty D) (h3 : InnerC k' p (ks.take i) D) (h4 : Keep NoB w wr) (hb : b < w.heap.size) (hb' : w.heap.size ≤ b') (hi : i < ks.length) (hlt : i < k'.cap)
    (hd : (ks.map Kid.key).Nodup) (ha : Added k' b' D i ks[i].key ks[i].val wr e w1) : GrowAt k k' p ks b b' C w (i + 1) w1 := by
  obtain ⟨_, ha2, ha3⟩ := ha
  refine ⟨_, ha3.blk h1 (by omega), ha2, ?_, h4.trans ha3 (fun j hj e => by omega)⟩
  have hl : (ks.take i).length = i := by simp; omega
  have := h3.add ks[i] (by omega) (take_fresh hd hi)
  rw [hl] at this
  rw [List.take_succ_eq_append_getElem hi]
  exact this

set_option maxHeartbeats 2000000 in
set_option maxRecDepth 100000 in
theorem grow_n4 (b : Nat) (p : Bs) (ks : List Kid) (C : Array Value) (w : World) (hb : Blk w b 344 C) (hC : InnerC .n4 p ks C) (hfull : ks.length = 4) (hv : ∀ c ∈ ks, ∃ t u, c.val = .iface t u) (hd : (ks.map Kid.key).Nodup) :
    Calls Tryz.prog 350 #[.pointer (some ⟨b, 0, none⟩)] w (Grew .n10 p ks w) := by
  have cp : w.cell? ⟨b, 4, none⟩ = some (str p) := cellOf hb hC.pre
  have HB := Lib.hid hb
  have HC := Lib.hid hC
  have HL := Lib.hid hfull
  have hlt := hb.lt
  have HV := Lib.hid hv
  have HD := Lib.hid hd
  clear hb hC hfull hv hd
  go_enter Tryz.func350, Tryz.ntmps350
  go_wp2
  go_loopw [4] (fun i wr => ∃ i' : Nat, i' ≤ 4 ∧ i = .int .i64 i' ∧ GrowAt .n4 .n10 p ks b w.heap.size C w i' wr) (fun i _ => 4 - (intOf i).toNat)
  case atStart =>
    refine ⟨0, by omega, rfl, _, HB.out.alloc _, Blk.new w _ _, ?_, (Keep.refl NoB w).alloc _⟩
    exact InnerC.made .n10 p _ rfl rfl rfl (fun h => by cases h)
  case round =>
    obtain ⟨i, hi, rfl, D, g1, g2, g3, g4⟩ := hrel
    have hll := HL.out
    by_cases hlt2 : i < 4
    · have hi' : i < ks.length := by omega
      have hgk : ks[i]? = some ks[i] := List.getElem?_eq_getElem hi'
      obtain ⟨t, u, hv⟩ := HV.out ks[i] (List.getElem_mem hi')
      have ck := cellOf g1 (HC.out.key (by decide) i _ hgk)
      have cv := cellOf g1 (HC.out.kid i _ hgk)
      rw [hv] at cv
      change wr.cell? ⟨b, 6 + i, none⟩ = _ at ck
      have hl : (ks.take i).length = i := by simp; omega
      have hadd := add_n10 w.heap.size i ks[i].key t u p (ks.take i) D wr.drew g2 g3 (by omega) hl.symm
      have hst := fun e w1 (ha : Added .n10 w.heap.size D i ks[i].key ks[i].val wr.drew e w1) => GrowAt.step (wr := wr.drew) (k := .n4) (C := C) (D := D) (w := w) g1 g2 g3 g4.drew hlt (Nat.le_refl _) hi' (show i < 10 by omega) HD.out ha
      rw [hv] at hst
      have HS := Lib.hid hst
      have HA := Lib.hid hadd
      clear hst hadd hgk hv g1 g2 g3 g4 hl hll
      generalize ks[i].key = x at *
      go_wp2
      go_still_tail 13, (by kernel_rfl)
      go_wp2_with (go_at_call 355; refine HA.out.mono ?_; intro e w1 hadd'; have hadd2 := hadd'; obtain ⟨rfl, _, _⟩ := hadd2; have HS1 := Lib.hid (HS.out _ _ hadd'); clear hadd')
      go_roundw
      case rel => exact ⟨i + 1, by omega, by go_num, HS1.out⟩
      case measure => simp [intOf]; omega
    · obtain rfl : i = 4 := by omega
      rw [List.take_of_length_le (by omega)] at g3
      have hfin : Grew .n10 p ks w (.returned (.iface 383 (.pointer (some ⟨w.heap.size, 0, none⟩)))) wr := ⟨_, D, rfl, Nat.le_refl _, g2, g3, g4⟩
      have HF := Lib.hid hfin
      clear hfin g1 g2 g3 g4
      go_wp2
      go_ret
      exact HF.out

set_option maxHeartbeats 2000000 in
set_option maxRecDepth 100000 in
theorem grow_n10 (b : Nat) (p : Bs) (ks : List Kid) (C : Array Value) (w : World) (hb : Blk w b 387 C) (hC : InnerC .n10 p ks C) (hfull : ks.length = 10) (hv : ∀ c ∈ ks, ∃ t u, c.val = .iface t u) (hd : (ks.map Kid.key).Nodup) :
    Calls Tryz.prog 360 #[.pointer (some ⟨b, 0, none⟩)] w (Grew .n16 p ks w) := by
  have cp : w.cell? ⟨b, 10, none⟩ = some (str p) := cellOf hb hC.pre
  have HB := Lib.hid hb
  have HC := Lib.hid hC
  have HL := Lib.hid hfull
  have hlt := hb.lt
  have HV := Lib.hid hv
  have HD := Lib.hid hd
  clear hb hC hfull hv hd
  go_enter Tryz.func360, Tryz.ntmps360
  go_wp2
  go_loopw [4] (fun i wr => ∃ i' : Nat, i' ≤ 10 ∧ i = .int .i64 i' ∧ GrowAt .n10 .n16 p ks b w.heap.size C w i' wr) (fun i _ => 10 - (intOf i).toNat)
  case atStart =>
    refine ⟨0, by omega, rfl, _, HB.out.alloc _, Blk.new w _ _, ?_, (Keep.refl NoB w).alloc _⟩
    exact InnerC.made .n16 p _ rfl rfl rfl (fun h => by cases h)
  case round =>
    obtain ⟨i, hi, rfl, D, g1, g2, g3, g4⟩ := hrel
    have hll := HL.out
    by_cases hlt2 : i < 10
    · have hi' : i < ks.length := by omega
      have hgk : ks[i]? = some ks[i] := List.getElem?_eq_getElem hi'
      obtain ⟨t, u, hv⟩ := HV.out ks[i] (List.getElem_mem hi')
      have ck := cellOf g1 (HC.out.key (by decide) i _ hgk)
      have cv := cellOf g1 (HC.out.kid i _ hgk)
      rw [hv] at cv
      change wr.cell? ⟨b, 12 + i, none⟩ = _ at ck
      have hl : (ks.take i).length = i := by simp; omega
      have hadd := add_n16 w.heap.size i ks[i].key t u p (ks.take i) D wr.drew g2 g3 (by omega) hl.symm
      have hst := fun e w1 (ha : Added .n16 w.heap.size D i ks[i].key ks[i].val wr.drew e w1) => GrowAt.step (wr := wr.drew) (k := .n10) (C := C) (D := D) (w := w) g1 g2 g3 g4.drew hlt (Nat.le_refl _) hi' (show i < 16 by omega) HD.out ha
      rw [hv] at hst
      have HS := Lib.hid hst
      have HA := Lib.hid hadd
      clear hst hadd hgk hv g1 g2 g3 g4 hl hll
      generalize ks[i].key = x at *
      go_wp2
      go_still_tail 13, (by kernel_rfl)
      go_wp2_with (go_at_call 365; refine HA.out.mono ?_; intro e w1 hadd'; have hadd2 := hadd'; obtain ⟨rfl, _, _⟩ := hadd2; have HS1 := Lib.hid (HS.out _ _ hadd'); clear hadd')
      go_roundw
      case rel => exact ⟨i + 1, by omega, by go_num, HS1.out⟩
      case measure => simp [intOf]; omega
    · obtain rfl : i = 10 := by omega
      rw [List.take_of_length_le (by omega)] at g3
      have hfin : Grew .n16 p ks w (.returned (.iface 389 (.pointer (some ⟨w.heap.size, 0, none⟩)))) wr := ⟨_, D, rfl, Nat.le_refl _, g2, g3, g4⟩
      have HF := Lib.hid hfin
      clear hfin g1 g2 g3 g4
      go_wp2
      go_ret
      exact HF.out

set_option maxHeartbeats 2000000 in
set_option maxRecDepth 100000 in
theorem grow_n16 (b : Nat) (p : Bs) (ks : List Kid) (C : Array Value) (w : World) (hb : Blk w b 393 C) (hC : InnerC .n16 p ks C) (hfull : ks.length = 16) (hv : ∀ c ∈ ks, ∃ t u, c.val = .iface t u) (hd : (ks.map Kid.key).Nodup) :
    Calls Tryz.prog 369 #[.pointer (some ⟨b, 0, none⟩)] w (Grew .n48 p ks w) := by
  have cp : w.cell? ⟨b, 16, none⟩ = some (str p) := cellOf hb hC.pre
  have HB := Lib.hid hb
  have HC := Lib.hid hC
  have HL := Lib.hid hfull
  have hlt := hb.lt
  have HV := Lib.hid hv
  have HD := Lib.hid hd
  clear hb hC hfull hv hd
  go_enter Tryz.func369, Tryz.ntmps369
  go_wp2
  go_loopw [4] (fun i wr => ∃ i' : Nat, i' ≤ 16 ∧ i = .int .i64 i' ∧ GrowAt .n16 .n48 p ks b w.heap.size C w i' wr) (fun i _ => 16 - (intOf i).toNat)
  case atStart =>
    refine ⟨0, by omega, rfl, _, HB.out.alloc _, Blk.new w _ _, ?_, (Keep.refl NoB w).alloc _⟩
    exact InnerC.made .n48 p _ rfl rfl rfl (fun _ i hi => zero48_key hi _)
  case round =>
    obtain ⟨i, hi, rfl, D, g1, g2, g3, g4⟩ := hrel
    have hll := HL.out
    by_cases hlt2 : i < 16
    · have hi' : i < ks.length := by omega
      have hgk : ks[i]? = some ks[i] := List.getElem?_eq_getElem hi'
      obtain ⟨t, u, hv⟩ := HV.out ks[i] (List.getElem_mem hi')
      have ck := cellOf g1 (HC.out.key (by decide) i _ hgk)
      have cv := cellOf g1 (HC.out.kid i _ hgk)
      rw [hv] at cv
      change wr.cell? ⟨b, 18 + i, none⟩ = _ at ck
      have hl : (ks.take i).length = i := by simp; omega
      have hadd := add_n48 w.heap.size i ks[i].key t u p (ks.take i) D wr.drew g2 g3 (by omega) hl.symm
      have hst := fun e w1 (ha : Added .n48 w.heap.size D i ks[i].key ks[i].val wr.drew e w1) => GrowAt.step (wr := wr.drew) (k := .n16) (C := C) (D := D) (w := w) g1 g2 g3 g4.drew hlt (Nat.le_refl _) hi' (show i < 48 by omega) HD.out ha
      rw [hv] at hst
      have HS := Lib.hid hst
      have HA := Lib.hid hadd
      clear hst hadd hgk hv g1 g2 g3 g4 hl hll
      generalize ks[i].key = x at *
      go_wp2
      go_still_tail 13, (by kernel_rfl)
      go_wp2_with (go_at_call 374; refine HA.out.mono ?_; intro e w1 hadd'; have hadd2 := hadd'; obtain ⟨rfl, _, _⟩ := hadd2; have HS1 := Lib.hid (HS.out _ _ hadd'); clear hadd')
      go_roundw
      case rel => exact ⟨i + 1, by omega, by go_num, HS1.out⟩
      case measure => simp [intOf]; omega
    · obtain rfl : i = 16 := by omega
      rw [List.take_of_length_le (by omega)] at g3
      have hfin : Grew .n48 p ks w (.returned (.iface 394 (.pointer (some ⟨w.heap.size, 0, none⟩)))) wr := ⟨_, D, rfl, Nat.le_refl _, g2, g3, g4⟩
      have HF := Lib.hid hfin
      clear hfin g1 g2 g3 g4
      go_wp2
      go_ret
      exact HF.out

end Go.Proofs.YtmblkpjnafgplaaGreatDoor
