/- Plain laws of nodes for an insertion: a child turned, a child added, a leaf parted, a prefix parted. Plain laws of nodes for an insertion, the rest: an empty slot, a child added, a leaf parted, a prefix parted. -/
import Derived.Test.YtmblkpjnafgplaaGreatDoorR01
namespace Go.Proofs.YtmblkpjnafgplaaGreatDoor
open Go Go.RowKit
set_option maxRecDepth 100000
set_option linter.unusedVariables false
set_option linter.unusedSimpArgs false

theorem split_at {α : Type} {l : List α} {i : Nat} {a : α} (h : l[i]? = some a) (b : α) : l = l.take i ++ a :: l.drop (i + 1) ∧ l.set i b = l.take i ++ b :: l.drop (i + 1) := by
  obtain ⟨hi, rfl⟩ := List.getElem?_eq_some_iff.1 h
  exact ⟨by rw [← List.drop_eq_getElem_cons hi, List.take_append_drop], by rw [List.set_eq_take_append_cons_drop, if_pos hi]⟩

/-- what a node is made of, of whatever kind, with its blocks apart -/
structure Kids (w : World) (ks : List Kid) : Prop where
  node : ∀ c ∈ ks, TNode w c.val c.M c.F
  keyed : ∀ c ∈ ks, c.M ≠ [] ∧ ∀ e ∈ c.M, pv e.1 = c.key
  apart : (ks.map Kid.key).Nodup

abbrev Mof (p : Bs) (ks : List Kid) : List Ent := ks.flatMap fun c => c.M.map fun e => (p ++ e.1, e.2)
abbrev Fof (b : Nat) (ks : List Kid) : List Nat := b :: ks.flatMap Kid.F

theorem Kids.keep {w w' : World} {ks : List Kid} {G : Nat → Prop} (h : Kids w ks) (hk : Keep G w w') (hG : ∀ c ∈ ks, ∀ b ∈ c.F, b < w.heap.size → ¬ G b) : Kids w' ks :=
  ⟨fun c hc => (h.node c hc).keep hk (hG c hc), h.keyed, h.apart⟩

theorem Kids.tnode {w : World} {k : NK} {b : Nat} {p : Bs} {ks : List Kid} {C : Array Value} (h : Kids w ks) (hb : Blk w b k.ty C) (hC : InnerC k p ks C) (h0 : ks ≠ []) :
    TNode w (.iface k.tp (.pointer (some ⟨b, 0, none⟩))) (Mof p ks) (Fof b ks) := .inner k b p ks C hb hC h.node h.keyed h.apart h0

/-- one child's cells turned -/
theorem InnerC.setKid {k : NK} {p : Bs} {ks : List Kid} {C : Array Value} (h : InnerC k p ks C) {i : Nat} {d d' : Kid} (hd : ks[i]? = some d) (hkey : d'.key = d.key) :
    InnerC k p (ks.set i d') (C.setIfInBounds i d'.val) := by
  have hz := h.size
  have hsm := k.small
  have hf := h.few
  have hi := (List.getElem?_eq_some_iff.1 hd).1
  have hlt : ∀ (j : Nat) (c : Kid), (ks.set i d')[j]? = some c → (j = i ∧ c = d') ∨ (j ≠ i ∧ ks[j]? = some c) := by
    intro j c hc
    by_cases e : j = i
    · subst e; rw [List.getElem?_set_self hi] at hc; injection hc with hc; exact .inl ⟨rfl, hc.symm⟩
    · rw [List.getElem?_set_ne (Ne.symm e)] at hc; exact .inr ⟨e, hc⟩
  have hmem : ∀ x : UInt8, (∀ c ∈ ks.set i d', c.key ≠ x) → ∀ c ∈ ks, c.key ≠ x := by
    intro x hx c hc
    obtain ⟨j, hj, rfl⟩ := List.mem_iff_getElem.1 hc
    by_cases e : j = i
    · subst e
      have : ks[j] = d := by rw [List.getElem?_eq_getElem hj] at hd; injection hd
      rw [this, ← hkey]
      exact hx d' (List.mem_of_getElem? (i := j) (by rw [List.getElem?_set_self hj]))
    · exact hx _ (List.mem_of_getElem? (i := j) (by rw [List.getElem?_set_ne (Ne.symm e)]; exact List.getElem?_eq_getElem hj))
  refine ⟨by simpa using hz, by simpa using hf, ?_, ?_, ?_, ?_, ?_, ?_⟩
  · rw [Array.getElem?_setIfInBounds_ne (by omega)]; exact h.pre
  · rw [Array.getElem?_setIfInBounds_ne (by omega)]; simpa using h.num
  · intro j c hc
    rcases hlt j c hc with ⟨rfl, rfl⟩ | ⟨hne, hc'⟩
    · exact Array.getElem?_setIfInBounds_self_of_lt (by omega)
    · rw [Array.getElem?_setIfInBounds_ne (Ne.symm hne)]; exact h.kid j c hc'
  · intro hk j c hc
    rw [Array.getElem?_setIfInBounds_ne (by omega)]
    rcases hlt j c hc with ⟨rfl, rfl⟩ | ⟨hne, hc'⟩
    · rw [hkey]; exact h.key hk j d hd
    · exact h.key hk j c hc'
  · intro hk j c hc
    rw [Array.getElem?_setIfInBounds_ne (by omega)]
    rcases hlt j c hc with ⟨rfl, rfl⟩ | ⟨hne, hc'⟩
    · rw [hkey]; exact h.key8 hk j d hd
    · exact h.key8 hk j c hc'
  · intro hk x hx
    rw [Array.getElem?_setIfInBounds_ne (by omega)]
    exact h.no8 hk x (hmem x hx)

/-- what an insertion at a slot leaves behind: the slot's block pb (cells Cp, type Tp, the slot at po) and the node in it -/
structure InsAt (pb po : Nat) (Tp : TypeId) (Cp : Array Value) (M : List Ent) (F : List Nat) (t : Bs) (vs : List Value) (w w' : World) : Prop where
  ex : ∃ (nv' : Value) (M' : List Ent) (F' : List Nat) (bl : Nat) (sf : Bs), Blk w' pb Tp (Cp.setIfInBounds po nv') ∧ TNode w' nv' M' F' ∧ M'.Perm ((t, bl) :: M) ∧ F'.Nodup ∧
    (∀ k ∈ F', k ∈ F ∨ w.heap.size ≤ k) ∧ w.heap.size ≤ bl ∧ Blk w' bl 267 (vs ++ [str sf]).toArray
  old : ∀ e ∈ M, ∀ j, j < 5 → w'.cell? ⟨e.2, j, none⟩ = w.cell? ⟨e.2, j, none⟩
  kept : Keep (fun k => k ∈ F ∨ k = pb) w w'

def Inserted (pb po : Nat) (Tp : TypeId) (Cp : Array Value) (M : List Ent) (F : List Nat) (t : Bs) (vs : List Value) (w : World) (e : Ending) (w' : World) : Prop :=
  e = .returned (.tuple #[.pointer none, .bool false]) ∧ InsAt pb po Tp Cp M F t vs w w'

/-- from a later world: nothing was turned between -/
theorem InsAt.from_ {pb po : Nat} {Tp : TypeId} {Cp : Array Value} {M : List Ent} {F : List Nat} {t : Bs} {vs : List Value} {w w1 w' : World} (h : InsAt pb po Tp Cp M F t vs w1 w') (hk : Keep NoB w w1)
    (hM : ∀ e ∈ M, e.2 < w.heap.size) : InsAt pb po Tp Cp M F t vs w w' := by
  obtain ⟨nv', M', F', bl, sf, h1, h2, h3, h4, h5, h6, h7⟩ := h.ex
  have hz := hk.size
  refine ⟨⟨nv', M', F', bl, sf, h1, h2, h3, h4, fun k hk' => (h5 k hk').imp id (fun h => Nat.le_trans hz h), Nat.le_trans hz h6, h7⟩, fun e he j hj => ?_, ?_⟩
  · rw [h.old e he j hj]
    exact hk.cell (p := ⟨e.2, j, none⟩) (hM e he) (fun h => h)
  · exact (hk.mono (fun _ _ h => h.elim)).trans h.kept (fun i _ h => h)

theorem perm_app {α : Type} {a : α} {l r m m' : List α} (h : m'.Perm (a :: m)) : (l ++ (m' ++ r)).Perm (a :: (l ++ (m ++ r))) := by
  have h1 : (l ++ (m' ++ r)).Perm (l ++ ((a :: m) ++ r)) := (h.append_right r).append_left l
  exact h1.trans (by rw [List.cons_append]; exact List.perm_middle)

theorem Mof_split (p : Bs) (l r : List Kid) (d : Kid) : Mof p (l ++ d :: r) = Mof p l ++ ((d.M.map fun e => (p ++ e.1, e.2)) ++ Mof p r) := by simp [Mof]
theorem Fof_split (b : Nat) (l r : List Kid) (d : Kid) : Fof b (l ++ d :: r) = b :: (l.flatMap Kid.F ++ (d.F ++ r.flatMap Kid.F)) := by simp [Fof]

/-- a child turned by an insertion -/
theorem InsAt.up {w w1 w' : World} {pb po : Nat} {Tp : TypeId} {Cp : Array Value} {k : NK} {b : Nat} {p t : Bs} {ks : List Kid} {C : Array Value} {i : Nat} {d : Kid} {vs : List Value}
    (hK : Kids w1 ks) (hb : Blk w1 b k.ty C) (hC : InnerC k p ks C) (hd : ks[i]? = some d) (hF : (Fof b ks).Nodup) (hpb : pb ∉ Fof b ks) (hCp : Blk w1 pb Tp Cp) (hv : Cp[po]? = some (.iface k.tp (.pointer (some ⟨b, 0, none⟩))))
    (hk1 : Keep NoB w w1) (hlt : ∀ k ∈ Fof b ks, k < w.heap.size) (hM : ∀ e ∈ Mof p ks, e.2 ∈ Fof b ks) (hpv : pv t = d.key)
    (hi : InsAt b i k.ty C d.M d.F t vs w1 w') : InsAt pb po Tp Cp (Mof p ks) (Fof b ks) (p ++ t) vs w w' := by
  obtain ⟨nv', M', F', bl, sf, h1, h2, h3, h4, h5, h6, h7⟩ := hi.ex
  obtain ⟨es, es'⟩ := split_at hd ⟨d.key, nv', M', F'⟩
  have hdm := List.mem_of_getElem? hd
  have hz := hk1.size
  have hFn := hF
  rw [es, Fof_split] at hFn
  have hsub : ∀ c ∈ ks, ∀ x ∈ c.F, x ∈ Fof b ks := fun c hc x hx => List.mem_cons_of_mem _ (List.mem_flatMap.2 ⟨c, hc, hx⟩)
  have hoth : ∀ c ∈ ks.take i ++ ks.drop (i + 1), ∀ x ∈ c.F, ¬ (x ∈ d.F ∨ x = b) := by
    intro c hc x hx
    have hx' : x ∈ (ks.take i).flatMap Kid.F ∨ x ∈ (ks.drop (i + 1)).flatMap Kid.F := by
      rcases List.mem_append.1 hc with h | h
      · exact .inl (List.mem_flatMap.2 ⟨c, h, hx⟩)
      · exact .inr (List.mem_flatMap.2 ⟨c, h, hx⟩)
    rw [List.nodup_cons, List.nodup_append, List.nodup_append] at hFn
    obtain ⟨n1, n2, n3, n4⟩ := hFn
    rintro (hxd | rfl)
    · rcases hx' with h | h
      · exact n4 x h x (List.mem_append.2 (.inl hxd)) rfl
      · exact n3.2.2 x hxd x h rfl
    · apply n1
      rcases hx' with h | h
      · exact List.mem_append.2 (.inl h)
      · exact List.mem_append.2 (.inr (List.mem_append.2 (.inr h)))
  have hmemks : ∀ c ∈ ks.take i ++ ks.drop (i + 1), c ∈ ks := fun c hc => by
    rcases List.mem_append.1 hc with h | h
    · exact List.mem_of_mem_take h
    · exact List.mem_of_mem_drop h
  have hin : ∀ c ∈ ks.set i ⟨d.key, nv', M', F'⟩, c = ⟨d.key, nv', M', F'⟩ ∨ c ∈ ks.take i ++ ks.drop (i + 1) := by
    intro c hc
    rw [es'] at hc
    simp only [List.mem_append, List.mem_cons] at hc ⊢
    rcases hc with h | rfl | h
    · exact .inr (.inl h)
    · exact .inl rfl
    · exact .inr (.inr h)
  have hK' : Kids w' (ks.set i ⟨d.key, nv', M', F'⟩) := by
    refine ⟨fun c hc => ?_, fun c hc => ?_, ?_⟩
    · rcases hin c hc with rfl | h
      · exact h2
      · exact (hK.node c (hmemks c h)).keep hi.kept (fun x hx _ => hoth c h x hx)
    · rcases hin c hc with rfl | h
      · refine ⟨fun e => by simp only at e; rw [e] at h3; simp at h3, fun e he => ?_⟩
        rcases List.mem_cons.1 (h3.mem_iff.1 he) with rfl | he'
        · exact hpv
        · exact (hK.keyed d hdm).2 e he'
      · exact hK.keyed c (hmemks c h)
    · have : (ks.set i ⟨d.key, nv', M', F'⟩).map Kid.key = ks.map Kid.key := by
        rw [es']; conv => rhs; rw [es]
        simp
      rw [this]; exact hK.apart
  have hpn : ¬ (pb ∈ d.F ∨ pb = b) := by
    rintro (h | h)
    · exact hpb (hsub d hdm pb h)
    · exact hpb (by rw [h]; exact List.mem_cons_self)
  have hC' := hC.setKid (d' := ⟨d.key, nv', M', F'⟩) hd rfl
  have hCp' : Cp.setIfInBounds po (.iface k.tp (.pointer (some ⟨b, 0, none⟩))) = Cp := by
    apply Array.ext_getElem?
    intro j
    by_cases e : j = po
    · subst e
      rw [hv, Array.getElem?_setIfInBounds_self_of_lt (by
        rcases Nat.lt_or_ge j Cp.size with h | h
        · exact h
        · rw [Array.getElem?_eq_none h] at hv; cases hv)]
    · rw [Array.getElem?_setIfInBounds_ne (Ne.symm e)]
  refine ⟨⟨_, Mof p (ks.set i ⟨d.key, nv', M', F'⟩), Fof b (ks.set i ⟨d.key, nv', M', F'⟩), bl, sf, ?_, hK'.tnode h1 hC' (by
    intro e; have := congrArg List.length e; simp at this; rw [this] at hd; simp at hd), ?_, ?_, ?_, Nat.le_trans hz h6, h7⟩, ?_, ?_⟩
  · rw [hCp']; exact hi.kept.blk hCp hpn
  · rw [es', Mof_split]
    conv => rhs; rw [es, Mof_split]
    have := h3.map (fun e : Ent => (p ++ e.1, e.2))
    exact perm_app this
  · rw [es', Fof_split]
    rw [List.nodup_cons, List.nodup_append, List.nodup_append] at hFn ⊢
    obtain ⟨n1, n2, n3, n4⟩ := hFn
    simp only [List.mem_append, not_or] at n1 n4 ⊢
    have hbig : ∀ x ∈ F', x ∈ d.F ∨ w1.heap.size ≤ x := h5
    have hsm : ∀ x, x ∈ (ks.take i).flatMap Kid.F ∨ x ∈ (ks.drop (i + 1)).flatMap Kid.F → x < w1.heap.size := by
      intro x hx
      refine Nat.lt_of_lt_of_le (hlt x ?_) hz
      rcases hx with h | h
      · obtain ⟨c, hc, hx⟩ := List.mem_flatMap.1 h; exact hsub c (List.mem_of_mem_take hc) x hx
      · obtain ⟨c, hc, hx⟩ := List.mem_flatMap.1 h; exact hsub c (List.mem_of_mem_drop hc) x hx
    refine ⟨⟨n1.1, fun hx => ?_, n1.2.2⟩, n2, ⟨h4, n3.2.1, fun x hx y hy e => ?_⟩, fun x hx y hy e => ?_⟩
    · rcases hbig b hx with h | h
      · exact n1.2.1 h
      · have := hlt b List.mem_cons_self; omega
    · subst e
      rcases hbig x hx with h | h
      · exact n3.2.2 x h x hy rfl
      · have := hsm x (.inr hy); omega
    · subst e
      rcases hy with hy | hy
      · rcases hbig x hy with h | h
        · exact n4 x hx x (.inl h) rfl
        · have := hsm x (.inl hx); omega
      · exact n4 x hx x (.inr hy) rfl
  · intro x hx
    rw [es', Fof_split] at hx
    simp only [List.mem_cons, List.mem_append] at hx
    rcases hx with rfl | hx | hx | hx
    · exact .inl List.mem_cons_self
    · obtain ⟨c, hc, hx⟩ := List.mem_flatMap.1 hx; exact .inl (hsub c (List.mem_of_mem_take hc) x hx)
    · rcases h5 x hx with h | h
      · exact .inl (hsub d hdm x h)
      · exact .inr (Nat.le_trans hz h)
    · obtain ⟨c, hc, hx⟩ := List.mem_flatMap.1 hx; exact .inl (hsub c (List.mem_of_mem_drop hc) x hx)
  · intro e he j hj
    have hlte : e.2 < w.heap.size := hlt _ (hM e he)
    simp only [List.mem_flatMap, List.mem_map] at he
    obtain ⟨c, hc, e', he', rfl⟩ := he
    have hkeep1 : w1.cell? ⟨e'.2, j, none⟩ = w.cell? ⟨e'.2, j, none⟩ := hk1.cell (p := ⟨e'.2, j, none⟩) hlte (fun h => h)
    rw [← hkeep1]
    obtain ⟨n, hn, rfl⟩ := List.mem_iff_getElem.1 hc
    by_cases e : n = i
    · subst e
      have : ks[n] = d := by rw [List.getElem?_eq_getElem hn] at hd; injection hd
      rw [this] at he'
      exact hi.old e' he' j hj
    · have hcin : ks[n] ∈ ks.take i ++ ks.drop (i + 1) := by
        rcases Nat.lt_or_gt_of_ne e with h | h
        · exact List.mem_append.2 (.inl (List.mem_iff_getElem.2 ⟨n, by simp; omega, by simp⟩))
        · exact List.mem_append.2 (.inr (List.mem_iff_getElem.2 ⟨n - (i + 1), by simp; omega, by simp; congr 1; omega⟩))
      have hmb := ((hK.node _ hc).mem_blk e' he').1
      exact hi.kept.cell (p := ⟨e'.2, j, none⟩) (Nat.lt_of_lt_of_le hlte hz) (hoth _ hcin _ hmb)
  · refine (hk1.mono (fun _ _ h => h.elim)).trans hi.kept (fun x _ h => ?_)
    rcases h with h | h
    · exact .inl (hsub d hdm x h)
    · exact .inl (by rw [h]; exact List.mem_cons_self)

end Go.Proofs.YtmblkpjnafgplaaGreatDoor

namespace Go.Proofs.YtmblkpjnafgplaaGreatDoor
open Go Go.RowKit
set_option maxRecDepth 100000
set_option linter.unusedVariables false
set_option linter.unusedSimpArgs false

theorem leaf_size {w : World} {bl : Nat} {vs : List Value} {s : Bs} (h : Blk w bl 267 (vs ++ [str s]).toArray) (hv : vs.length = 5) : TNode w (.iface 265 (.pointer (some ⟨bl, 0, none⟩))) [(s, bl)] [bl] :=
  .leaf bl s _ h (by simp [hv]) (by
    rw [List.getElem?_toArray, List.getElem?_append_right (by omega), hv]; simp)

abbrev leafKid (t : Bs) (bl : Nat) : Kid := ⟨pv t, .iface 265 (.pointer (some ⟨bl, 0, none⟩)), [(t, bl)], [bl]⟩

theorem InsAt.nil_ {w w' : World} {pb po bl : Nat} {Tp : TypeId} {Cp : Array Value} {t : Bs} {vs : List Value} (hv : vs.length = 5)
    (hp : Blk w' pb Tp (Cp.setIfInBounds po (.iface 265 (.pointer (some ⟨bl, 0, none⟩))))) (hl : Blk w' bl 267 (vs ++ [str t]).toArray) (hbl : w.heap.size ≤ bl) (hk : Keep (fun k => k = pb) w w') :
    InsAt pb po Tp Cp [] [] t vs w w' :=
  ⟨⟨_, [(t, bl)], [bl], bl, t, hp, leaf_size hl hv, List.Perm.refl _, by simp, fun k hk => by simp at hk; subst hk; exact .inr hbl, hbl, hl⟩, fun _ h => by simp at h, hk.mono (fun _ _ h => .inr h)⟩

theorem InsAt.add {w w' : World} {pb po : Nat} {Tp : TypeId} {Cp : Array Value} {k2 : NK} {b b2 bl : Nat} {p t : Bs} {ks : List Kid} {C2 : Array Value} {vs : List Value} (hvs : vs.length = 5)
    (hK : Kids w ks) (h0 : ks ≠ []) (hF : (Fof b ks).Nodup) (hpb : pb ∉ Fof b ks) (hlt : ∀ k ∈ Fof b ks, k < w.heap.size) (hfresh : ∀ c ∈ ks, c.key ≠ pv t)
    (hkeep : Keep (fun x => x = b ∨ x = pb) w w') (hb2 : Blk w' b2 k2.ty C2) (hC2 : InnerC k2 p (ks ++ [leafKid t bl]) C2) (hl : Blk w' bl 267 (vs ++ [str t]).toArray)
    (hp : Blk w' pb Tp (Cp.setIfInBounds po (.iface k2.tp (.pointer (some ⟨b2, 0, none⟩))))) (hb2c : b2 = b ∨ w.heap.size ≤ b2) (hbl : w.heap.size ≤ bl) :
    InsAt pb po Tp Cp (Mof p ks) (Fof b ks) (p ++ t) vs w w' := by
  have hsub : ∀ c ∈ ks, ∀ x ∈ c.F, x ∈ Fof b ks := fun c hc x hx => List.mem_cons_of_mem _ (List.mem_flatMap.2 ⟨c, hc, hx⟩)
  have hnb := List.nodup_cons.1 hF
  have hnot : ∀ c ∈ ks, ∀ x ∈ c.F, ¬ (x = b ∨ x = pb) := by
    rintro c hc x hx (rfl | rfl)
    · exact hnb.1 (List.mem_flatMap.2 ⟨c, hc, hx⟩)
    · exact hpb (hsub c hc x hx)
  have hne : bl ≠ b2 := Blk.ne_ hl hb2 (Ne.symm k2.ty_ne)
  have hK' : Kids w' (ks ++ [leafKid t bl]) := by
    refine ⟨fun c hc => ?_, fun c hc => ?_, ?_⟩
    · rcases List.mem_append.1 hc with h | h
      · exact (hK.node c h).keep hkeep (fun x hx _ => hnot c h x hx)
      · simp at h; subst h; exact leaf_size hl hvs
    · rcases List.mem_append.1 hc with h | h
      · exact hK.keyed c h
      · simp at h; subst h; exact ⟨by simp, fun e he => by simp at he; subst he; rfl⟩
    · rw [List.map_append, List.nodup_append]
      refine ⟨hK.apart, by simp, fun x hx y hy e => ?_⟩
      simp at hy; subst hy
      obtain ⟨c, hc, rfl⟩ := List.mem_map.1 hx
      exact hfresh c hc e
  refine ⟨⟨_, Mof p (ks ++ [leafKid t bl]), Fof b2 (ks ++ [leafKid t bl]), bl, t, hp, hK'.tnode hb2 hC2 (by simp), ?_, ?_, ?_, hbl, hl⟩, ?_, ?_⟩
  · have : Mof p (ks ++ [leafKid t bl]) = Mof p ks ++ [(p ++ t, bl)] := by simp [Mof]
    rw [this]; exact List.perm_append_singleton _ _
  · have : Fof b2 (ks ++ [leafKid t bl]) = b2 :: (ks.flatMap Kid.F ++ [bl]) := by simp [Fof]
    rw [this, List.nodup_cons, List.nodup_append]
    have hx : ∀ x ∈ ks.flatMap Kid.F, x < w.heap.size := fun x hx => hlt x (List.mem_cons_of_mem _ hx)
    refine ⟨?_, hnb.2, by simp, fun x h1 y h2 e => ?_⟩
    · simp only [List.mem_append, List.mem_singleton, not_or]
      refine ⟨fun h => ?_, Ne.symm hne⟩
      rcases hb2c with rfl | h'
      · exact hnb.1 h
      · have := hx b2 h; omega
    · simp at h2; subst h2; subst e
      have := hx x h1; omega
  · intro x hx
    have : Fof b2 (ks ++ [leafKid t bl]) = b2 :: (ks.flatMap Kid.F ++ [bl]) := by simp [Fof]
    rw [this] at hx
    simp only [List.mem_cons, List.mem_append, List.mem_singleton, List.not_mem_nil, or_false] at hx
    rcases hx with rfl | h | rfl
    · rcases hb2c with rfl | h
      · exact .inl List.mem_cons_self
      · exact .inr h
    · exact .inl (List.mem_cons_of_mem _ h)
    · exact .inr hbl
  · intro e he j hj
    simp only [List.mem_flatMap, List.mem_map] at he
    obtain ⟨c, hc, e', he', rfl⟩ := he
    have hmb := ((hK.node _ hc).mem_blk e' he').1
    exact hkeep.cell (p := ⟨e'.2, j, none⟩) (hlt _ (hsub c hc _ hmb)) (hnot c hc _ hmb)
  · exact hkeep.mono (fun x _ h => h.imp (fun e => by rw [e]; exact List.mem_cons_self) id)

theorem take_drop_cpl (p s : Bs) : s.take (cpl p s) = p.take (cpl p s) := (cpl_take p s).symm

theorem InsAt.leafSplit {w w' : World} {pb po : Nat} {Tp : TypeId} {Cp Cb C4 : Array Value} {b b4 bl : Nat} {suf s : Bs} {vs : List Value} (hvs : vs.length = 5)
    (hb : Blk w b 267 Cb) (hz : Cb.size = 6) (hne : suf ≠ s) (hpb : pb ≠ b) (n1 : 127 ∉ suf) (n2 : 127 ∉ s)
    (hkeep : Keep (fun x => x = b ∨ x = pb) w w') (h4 : Blk w' b4 344 C4) (hC4 : InnerC .n4 (s.take (cpl suf s)) [leafKid (s.drop (cpl suf s)) bl, leafKid (suf.drop (cpl suf s)) b] C4)
    (hl : Blk w' bl 267 (vs ++ [str (s.drop (cpl suf s))]).toArray) (hb' : Blk w' b 267 (Cb.setIfInBounds 5 (str (suf.drop (cpl suf s)))))
    (hp : Blk w' pb Tp (Cp.setIfInBounds po (.iface 314 (.pointer (some ⟨b4, 0, none⟩))))) (h4b : w.heap.size ≤ b4) (hbl : w.heap.size ≤ bl) :
    InsAt pb po Tp Cp [(suf, b)] [b] s vs w w' := by
  have hblt := hb.lt
  have hn : bl ≠ b4 := Blk.ne_ hl h4 (by decide)
  have hK' : Kids w' [leafKid (s.drop (cpl suf s)) bl, leafKid (suf.drop (cpl suf s)) b] := by
    refine ⟨fun c hc => ?_, fun c hc => ?_, ?_⟩
    · simp only [List.mem_cons, List.not_mem_nil, or_false] at hc
      rcases hc with rfl | rfl
      · exact leaf_size hl hvs
      · exact .leaf b _ _ hb' (by simpa using hz) (Array.getElem?_setIfInBounds_self_of_lt (by omega))
    · simp only [List.mem_cons, List.not_mem_nil, or_false] at hc
      rcases hc with rfl | rfl <;> exact ⟨by simp, fun e he => by simp at he; subst he; rfl⟩
    · simp only [List.map_cons, List.map_nil, List.nodup_cons, List.mem_singleton, List.not_mem_nil, not_false_iff, List.nodup_nil, and_true]
      exact Ne.symm (cpl_pv suf s hne n1 n2)
  have e1 : s.take (cpl suf s) ++ s.drop (cpl suf s) = s := List.take_append_drop _ _
  have e2 : s.take (cpl suf s) ++ suf.drop (cpl suf s) = suf := by rw [take_drop_cpl, List.take_append_drop]
  have eM : Mof (s.take (cpl suf s)) [leafKid (s.drop (cpl suf s)) bl, leafKid (suf.drop (cpl suf s)) b] = [(s, bl), (suf, b)] := by simp [Mof, e1, e2]
  have eF : Fof b4 [leafKid (s.drop (cpl suf s)) bl, leafKid (suf.drop (cpl suf s)) b] = [b4, bl, b] := by simp [Fof]
  refine ⟨⟨_, [(s, bl), (suf, b)], [b4, bl, b], bl, _, hp, by rw [← eM, ← eF]; exact hK'.tnode (k := .n4) h4 hC4 (by simp), List.Perm.refl _, ?_, ?_, hbl, hl⟩, ?_, ?_⟩
  · simp only [List.nodup_cons, List.mem_cons, List.not_mem_nil, or_false, not_or, not_false_iff, List.nodup_nil, and_true]
    omega
  · intro x hx
    simp only [List.mem_cons, List.not_mem_nil, or_false] at hx ⊢
    rcases hx with rfl | rfl | rfl
    · exact .inr h4b
    · exact .inr hbl
    · exact .inl rfl
  · intro e he j hj
    simp at he; subst he
    rw [hb'.cell, hb.cell, Array.getElem?_setIfInBounds_ne (by omega)]
  · exact hkeep.mono (fun x _ h => h.imp (fun e => by rw [e]; simp) id)

theorem InsAt.preSplit {w w' : World} {pb po : Nat} {Tp : TypeId} {Cp C C4 : Array Value} {k : NK} {b b4 bl : Nat} {p s : Bs} {ks : List Kid} {vs : List Value} (hvs : vs.length = 5)
    (hK : Kids w ks) (h0 : ks ≠ []) (hF : (Fof b ks).Nodup) (hpb : pb ∉ Fof b ks) (hlt : ∀ k ∈ Fof b ks, k < w.heap.size) (hb : Blk w b k.ty C) (hC : InnerC k p ks C)
    (hcp : cpl p s < p.length) (n1 : 127 ∉ p) (n2 : 127 ∉ s)
    (hkeep : Keep (fun x => x = b ∨ x = pb) w w') (h4 : Blk w' b4 344 C4)
    (hC4 : InnerC .n4 (s.take (cpl p s)) [⟨pv (p.drop (cpl p s)), .iface k.tp (.pointer (some ⟨b, 0, none⟩)), Mof (p.drop (cpl p s)) ks, Fof b ks⟩, leafKid (s.drop (cpl p s)) bl] C4)
    (hl : Blk w' bl 267 (vs ++ [str (s.drop (cpl p s))]).toArray) (hb' : Blk w' b k.ty (C.setIfInBounds k.cap (str (p.drop (cpl p s)))))
    (hp : Blk w' pb Tp (Cp.setIfInBounds po (.iface 314 (.pointer (some ⟨b4, 0, none⟩))))) (h4b : w.heap.size ≤ b4) (hbl : w.heap.size ≤ bl) :
    InsAt pb po Tp Cp (Mof p ks) (Fof b ks) s vs w w' := by
  have hsub : ∀ c ∈ ks, ∀ x ∈ c.F, x ∈ Fof b ks := fun c hc x hx => List.mem_cons_of_mem _ (List.mem_flatMap.2 ⟨c, hc, hx⟩)
  have hnb := List.nodup_cons.1 hF
  have hnot : ∀ c ∈ ks, ∀ x ∈ c.F, ¬ (x = b ∨ x = pb) := by
    rintro c hc x hx (rfl | rfl)
    · exact hnb.1 (List.mem_flatMap.2 ⟨c, hc, hx⟩)
    · exact hpb (hsub c hc x hx)
  have hn : bl ≠ b4 := Blk.ne_ hl h4 (by decide)
  have hpd : p.drop (cpl p s) ≠ [] := by
    intro e; have := congrArg List.length e; simp at this; omega
  have hKs : Kids w' ks := hK.keep hkeep (fun c hc x hx _ => hnot c hc x hx)
  have hnode := hKs.tnode hb' (hC.pre' (q := p.drop (cpl p s))) h0
  have hpv : ∀ e ∈ Mof (p.drop (cpl p s)) ks, pv e.1 = pv (p.drop (cpl p s)) := by
    intro e he
    simp only [Mof, List.mem_flatMap, List.mem_map] at he
    obtain ⟨c, hc, e', he', rfl⟩ := he
    cases hh : p.drop (cpl p s) with
    | nil => exact absurd hh hpd
    | cons x y => rfl
  have hps : p ≠ s := by
    rintro rfl
    have : ∀ q : Bs, cpl q q = q.length := by intro q; induction q with | nil => rfl | cons a q ih => simp [cpl, ih]
    rw [this] at hcp; omega
  have hK' : Kids w' [⟨pv (p.drop (cpl p s)), .iface k.tp (.pointer (some ⟨b, 0, none⟩)), Mof (p.drop (cpl p s)) ks, Fof b ks⟩, leafKid (s.drop (cpl p s)) bl] := by
    refine ⟨fun c hc => ?_, fun c hc => ?_, ?_⟩
    · simp only [List.mem_cons, List.not_mem_nil, or_false] at hc
      rcases hc with rfl | rfl
      · exact hnode
      · exact leaf_size hl hvs
    · simp only [List.mem_cons, List.not_mem_nil, or_false] at hc
      rcases hc with rfl | rfl
      · exact ⟨hnode.ne_nil, hpv⟩
      · exact ⟨by simp, fun e he => by simp at he; subst he; rfl⟩
    · simp only [List.map_cons, List.map_nil, List.nodup_cons, List.mem_singleton, List.not_mem_nil, not_false_iff, List.nodup_nil, and_true]
      exact cpl_pv p s hps n1 n2
  have e1 : s.take (cpl p s) ++ s.drop (cpl p s) = s := List.take_append_drop _ _
  have e2 : s.take (cpl p s) ++ p.drop (cpl p s) = p := by rw [take_drop_cpl, List.take_append_drop]
  have eM : Mof (s.take (cpl p s)) [⟨pv (p.drop (cpl p s)), .iface k.tp (.pointer (some ⟨b, 0, none⟩)), Mof (p.drop (cpl p s)) ks, Fof b ks⟩, leafKid (s.drop (cpl p s)) bl] = Mof p ks ++ [(s, bl)] := by
    have : (Mof (p.drop (cpl p s)) ks).map (fun e => (s.take (cpl p s) ++ e.1, e.2)) = Mof p ks := by
      simp only [Mof, List.map_flatMap, List.map_map, Function.comp_def, ← List.append_assoc, e2]
    show _ = _
    simp only [List.flatMap_cons, List.flatMap_nil, List.append_nil, this, List.map_cons, List.map_nil, e1]
  have eF : Fof b4 [⟨pv (p.drop (cpl p s)), .iface k.tp (.pointer (some ⟨b, 0, none⟩)), Mof (p.drop (cpl p s)) ks, Fof b ks⟩, leafKid (s.drop (cpl p s)) bl] = b4 :: (Fof b ks ++ [bl]) := by simp [Fof]
  refine ⟨⟨_, Mof p ks ++ [(s, bl)], b4 :: (Fof b ks ++ [bl]), bl, _, hp, by rw [← eM, ← eF]; exact hK'.tnode (k := .n4) h4 hC4 (by simp), List.perm_append_singleton _ _, ?_, ?_, hbl, hl⟩, ?_, ?_⟩
  · rw [List.nodup_cons, List.nodup_append]
    refine ⟨?_, hF, by simp, fun x h1 y h2 e => ?_⟩
    · rw [List.mem_append, List.mem_singleton, not_or]
      refine ⟨fun h => ?_, Ne.symm hn⟩
      have := hlt b4 h; omega
    · simp at h2; subst h2; subst e
      have := hlt x h1; omega
  · intro x hx
    rw [List.mem_cons, List.mem_append, List.mem_singleton] at hx
    rcases hx with rfl | h | rfl
    · exact .inr h4b
    · exact .inl h
    · exact .inr hbl
  · intro e he j hj
    simp only [Mof, List.mem_flatMap, List.mem_map] at he
    obtain ⟨c, hc, e', he', rfl⟩ := he
    have hmb := ((hK.node _ hc).mem_blk e' he').1
    exact hkeep.cell (p := ⟨e'.2, j, none⟩) (hlt _ (hsub c hc _ hmb)) (hnot c hc _ hmb)
  · exact hkeep.mono (fun x _ h => h.imp (fun e => by rw [e]; exact List.mem_cons_self) id)

end Go.Proofs.YtmblkpjnafgplaaGreatDoor
