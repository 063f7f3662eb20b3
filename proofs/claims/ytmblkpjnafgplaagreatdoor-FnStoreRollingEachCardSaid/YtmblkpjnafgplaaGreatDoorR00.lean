/- Memory words: a block known whole, what a call keeps outside a set of blocks, slices that read as lists. No program here. The subject tree in memory: what a node is, that it stays where nothing of its blocks turns. No program here. -/
import Derived.WalkKit
import Derived.Deep.Draws
import Derived.Lib.Hide
namespace Go.Proofs.YtmblkpjnafgplaaGreatDoor
open Go Go.RowKit

/-- block g is just the cells cs of element type t, none frozen -/
def Blk (w : World) (g : Nat) (t : TypeId) (cs : Array Value) : Prop := w.heap[g]? = some (.cells cs t (0, 0))

section
variable {w w' : World} {g : Nat} {t : TypeId} {cs : Array Value}
theorem Blk.lt (h : Blk w g t cs) : g < w.heap.size := by
  rcases Nat.lt_or_ge g w.heap.size with hlt | hge
  · exact hlt
  · unfold Blk at h; rw [Array.getElem?_eq_none hge] at h; cases h
theorem Blk.cell (h : Blk w g t cs) (i : Nat) : w.cell? ⟨g, i, none⟩ = cs[i]? := by
  unfold Blk at h; simp [World.cell?, h]
theorem Blk.frozen (h : Blk w g t cs) (i : Nat) : w.frozen? ⟨g, i, none⟩ = false := by
  unfold Blk at h; simp [World.frozen?, h]
theorem Blk.new (w : World) (t : TypeId) (cs : Array Value) : Blk (w.alloc (.cells cs t)) w.heap.size t cs := by
  show (w.heap.push _)[w.heap.size]? = _
  simp
theorem Blk.drew (h : Blk w g t cs) : Blk w.drew g t cs := h
theorem Blk.alloc (h : Blk w g t cs) (o : Obj) : Blk (w.alloc o) g t cs := (Below.heap_alloc w o g h.lt).trans h
theorem Blk.set_ (h : Blk w g t cs) (i : Nat) (u : Value) : Blk (w.setCell ⟨g, i, none⟩ u) g t (cs.setIfInBounds i u) := by
  unfold Blk at h ⊢
  simp [World.setCell, Array.getElem?_modify, h]
theorem Blk.far (h : Blk w g t cs) {p : Addr} (hp : g ≠ p.block) (u : Value) : Blk (w.setCell p u) g t cs := (Below.heap_setCell w p u g hp).trans h
theorem Blk.ne_ {g' : Nat} {t' : TypeId} {cs' : Array Value} (h : Blk w g t cs) (h' : Blk w g' t' cs') (hne : t ≠ t') : g ≠ g' := by
  rintro rfl
  unfold Blk at h h'
  rw [h] at h'
  injection h' with h'
  injection h' with _ ht
  exact hne ht
theorem Blk.inj {cs' : Array Value} {t' : TypeId} (h : Blk w g t cs) (h' : Blk w g t' cs') : cs = cs' ∧ t = t' := by
  unfold Blk at h h'
  rw [h] at h'
  injection h' with h'
  injection h' with h1 h2
  exact ⟨h1, h2⟩
theorem Blk.of_eq (h : Blk w g t cs) (e : w'.heap[g]? = w.heap[g]?) : Blk w' g t cs := e.trans h
end

/-- outside the blocks in F what was there is as it was -/
structure Keep (F : Nat → Prop) (w w' : World) : Prop where
  os : w'.os = w.os
  tape : w'.tape = w.tape
  output : w'.output = w.output
  size : w.heap.size ≤ w'.heap.size
  block : ∀ k, k < w.heap.size → ¬ F k → w'.heap[k]? = w.heap[k]?

abbrev NoB : Nat → Prop := fun _ => False

section
variable {F G : Nat → Prop} {a b c w w' : World}
theorem Keep.refl (F : Nat → Prop) (w : World) : Keep F w w := ⟨rfl, rfl, rfl, Nat.le_refl _, fun _ _ _ => rfl⟩
theorem Keep.mono (h : Keep F w w') (hFG : ∀ k, k < w.heap.size → F k → G k) : Keep G w w' :=
  ⟨h.os, h.tape, h.output, h.size, fun k hk hn => h.block k hk (fun hf => hn (hFG k hk hf))⟩
theorem Keep.trans (h : Keep F a b) (k : Keep G b c) (hG : ∀ i, i < a.heap.size → G i → F i) : Keep F a c :=
  ⟨k.os.trans h.os, k.tape.trans h.tape, k.output.trans h.output, Nat.le_trans h.size k.size,
   fun i hi hn => (k.block i (Nat.lt_of_lt_of_le hi h.size) (fun hg => hn (hG i hi hg))).trans (h.block i hi hn)⟩
theorem Keep.none_trans (h : Keep F a b) (k : Keep NoB b c) : Keep F a c := h.trans k (fun _ _ h => h.elim)
theorem Keep.drew (h : Keep F a b) : Keep F a b.drew := ⟨h.os, h.tape, h.output, h.size, h.block⟩
theorem Keep.drewN (h : Keep F a b) (n : Nat) : Keep F a (b.drewN n) := ⟨h.os, h.tape, h.output, h.size, h.block⟩
theorem Keep.alloc (h : Keep F a b) (o : Obj) : Keep F a (b.alloc o) :=
  h.trans (G := NoB) ⟨rfl, rfl, rfl, by simp, fun k hk _ => Below.heap_alloc _ _ _ hk⟩ (fun _ _ h => h.elim)
theorem Keep.setCell (h : Keep F a b) {p : Addr} (hp : p.block < a.heap.size → F p.block) (u : Value) : Keep F a (b.setCell p u) :=
  ⟨h.os, h.tape, h.output, by simpa using h.size, fun k hk hn => by
    rw [Below.heap_setCell _ _ _ _ (by rintro rfl; exact hn (hp hk))]; exact h.block k hk hn⟩
theorem Keep.blk (h : Keep F w w') {g : Nat} {t : TypeId} {cs : Array Value} (hb : Blk w g t cs) (hn : ¬ F g) : Blk w' g t cs :=
  (h.block g hb.lt hn).trans hb
theorem Keep.obj (h : Keep F w w') {g : Nat} {o : Obj} (hb : w.heap[g]? = some o) (hn : ¬ F g) : w'.heap[g]? = some o := by
  have hlt : g < w.heap.size := by
    rcases Nat.lt_or_ge g w.heap.size with hlt | hge
    · exact hlt
    · rw [Array.getElem?_eq_none hge] at hb; cases hb
  exact (h.block g hlt hn).trans hb
theorem Keep.cell (h : Keep F w w') {p : Addr} (hp : p.block < w.heap.size) (hn : ¬ F p.block) : w'.cell? p = w.cell? p :=
  World.cell?_of_block (w := w) (h.block p.block hp hn)
theorem Keep.cellS (h : Keep F w w') {p : Addr} {u : Value} (hc : w.cell? p = some u) (hn : ¬ F p.block) : w'.cell? p = some u :=
  (h.cell (World.block_lt_of_cell? w p hc) hn).trans hc
theorem Keep.frozen (h : Keep F w w') {p : Addr} (hp : p.block < w.heap.size) (hn : ¬ F p.block) : w'.frozen? p = w.frozen? p :=
  World.frozen?_of_block (w := w) (h.block p.block hp hn)
theorem Keep.below (h : Keep F w w') {B : Nat} (hB : B ≤ w.heap.size) (hF : ∀ k, k < B → ¬ F k) : Below B w w' :=
  ⟨h.os, h.tape, h.output, h.size, fun k hk => h.block k (Nat.lt_of_lt_of_le hk hB) (hF k hk)⟩
theorem Keep.of_below {B : Nat} (h : Below B w w') : Keep (fun k => B ≤ k) w w' :=
  ⟨h.os, h.tape, h.output, h.size, fun k _ hn => h.block k (by omega)⟩
theorem Keep.of_below_all (h : Below w.heap.size w w') : Keep NoB w w' :=
  ⟨h.os, h.tape, h.output, h.size, fun k hk _ => h.block k hk⟩
theorem Keep.below_all (h : Keep NoB w w') : Below w.heap.size w w' := h.below (Nat.le_refl _) (fun _ _ h => h)
theorem Keep.of_grown {row : Option Nat} (h : w.grownBy w' row) : Keep (fun k => some k = row) w w' :=
  ⟨h.os, h.tape, h.output, h.size, fun k hk hn => h.block k hk hn⟩
end

/-- the bytes of a string as a list -/
abbrev Bs := List UInt8
/-- a string value -/
abbrev str (l : Bs) : Value := .string ⟨l.toArray⟩
/-- a byte's cell -/
abbrev byteV (b : UInt8) : Value := .int .u8 (b.toNat : Int)

/-- the slice value '.slice A n c' holds the cells xs (elements of 'size' cells each), in blocks out of F -/
def RowAt (w : World) (size : Nat) (A : Option Addr) (n : Nat) (xs : List Value) : Prop :=
  xs.length = n * size ∧ (0 < n → ∃ ad, A = some ad ∧ ad.spot = none ∧ ∀ j u, xs[j]? = some u → w.cell? ⟨ad.block, ad.off + j, none⟩ = some u)

/-- its block, where there is one -/
def blkOf (A : Option Addr) (k : Nat) : Prop := ∃ ad, A = some ad ∧ ad.block = k

section
variable {w w' : World} {F : Nat → Prop} {size n : Nat} {A : Option Addr} {xs : List Value}
theorem RowAt.nil_ (w : World) (size : Nat) (A : Option Addr) : RowAt w size A 0 [] := ⟨by simp, fun h => absurd h (by omega)⟩
theorem RowAt.at_ {k : Nat} (h : RowAt w 1 A n xs) (hk : k < n) : ∃ ad u, A = some ad ∧ ad.spot = none ∧ xs[k]? = some u ∧ w.cell? ⟨ad.block, ad.off + k, none⟩ = some u := by
  obtain ⟨ad, e, hs, hc⟩ := h.2 (by omega)
  have hl : k < xs.length := by have := h.1; omega
  exact ⟨ad, xs[k], e, hs, List.getElem?_eq_getElem hl, hc k _ (List.getElem?_eq_getElem hl)⟩
theorem RowAt.keep (h : RowAt w size A n xs) (hk : Keep F w w') (hF : ∀ k, blkOf A k → k < w.heap.size → ¬ F k) : RowAt w' size A n xs :=
  ⟨h.1, fun hn => by
    obtain ⟨ad, e, hs, hc⟩ := h.2 hn
    refine ⟨ad, e, hs, fun j u hu => ?_⟩
    have h1 := hc j u hu
    exact hk.cellS h1 (hF _ ⟨ad, e, rfl⟩ (World.block_lt_of_cell? w ⟨ad.block, ad.off + j, none⟩ h1))⟩
end

end Go.Proofs.YtmblkpjnafgplaaGreatDoor

namespace Go.Proofs.YtmblkpjnafgplaaGreatDoor
open Go Go.RowKit

/-- the byte by which a node tells its children apart -/
def pv : Bs → UInt8
  | [] => 127
  | c :: _ => c

abbrev Ent := Bs × Nat

/-- the kinds of inner nodes that occur -/
inductive NK | n4 | n10 | n16 | n48
  deriving DecidableEq

namespace NK
/-- how many children -/
def cap : NK → Nat | n4 => 4 | n10 => 10 | n16 => 16 | n48 => 48
/-- the pointer's type -/
def tp : NK → TypeId | n4 => 314 | n10 => 383 | n16 => 389 | n48 => 394
/-- the struct's type -/
def ty : NK → TypeId | n4 => 344 | n10 => 387 | n16 => 393 | n48 => 397
/-- the functions' numbers -/
def fAdd : NK → Nat | n4 => 238 | n10 => 355 | n16 => 365 | n48 => 374
def fFind : NK → Nat | n4 => 349 | n10 => 359 | n16 => 368 | n48 => 378
def fFull : NK → Nat | n4 => 351 | n10 => 361 | n16 => 370 | n48 => 380
def fGrow : NK → Nat | n4 => 350 | n10 => 360 | n16 => 369 | n48 => 379
/-- how many keys -/
def keys : NK → Nat | n4 => 4 | n10 => 10 | n16 => 16 | n48 => 256
end NK

/-- a child: its key, its value, what it holds, its blocks -/
structure Kid where
  key : UInt8
  val : Value
  M : List Ent
  F : List Nat

/-- the cells of an inner node -/
structure InnerC (k : NK) (p : Bs) (ks : List Kid) (C : Array Value) : Prop where
  size : C.size = k.cap + 2 + k.keys
  few : ks.length ≤ k.cap
  pre : C[k.cap]? = some (str p)
  num : C[k.cap + 1]? = some (.int .u16 (ks.length : Int))
  kid : ∀ (i : Nat) (c : Kid), ks[i]? = some c → C[i]? = some c.val
  key : k ≠ .n48 → ∀ (i : Nat) (c : Kid), ks[i]? = some c → C[k.cap + 2 + i]? = some (byteV c.key)
  key8 : k = .n48 → ∀ (i : Nat) (c : Kid), ks[i]? = some c → C[k.cap + 2 + c.key.toNat]? = some (.int .u8 ((i : Int) + 1))
  no8 : k = .n48 → ∀ x : UInt8, (∀ c ∈ ks, c.key ≠ x) → C[k.cap + 2 + x.toNat]? = some (.int .u8 0)

inductive TNode (w : World) : Value → List Ent → List Nat → Prop
  | leaf (b : Nat) (s : Bs) (C : Array Value) (hb : Blk w b 267 C) (hz : C.size = 6) (hs : C[5]? = some (str s)) :
      TNode w (.iface 265 (.pointer (some ⟨b, 0, none⟩))) [(s, b)] [b]
  | inner (k : NK) (b : Nat) (p : Bs) (ks : List Kid) (C : Array Value) (hb : Blk w b k.ty C) (hC : InnerC k p ks C)
      (hk : ∀ c ∈ ks, TNode w c.val c.M c.F) (hM : ∀ c ∈ ks, c.M ≠ [] ∧ ∀ e ∈ c.M, pv e.1 = c.key) (hd : (ks.map Kid.key).Nodup) (h0 : ks ≠ []) :
      TNode w (.iface k.tp (.pointer (some ⟨b, 0, none⟩))) (ks.flatMap fun c => c.M.map fun e => (p ++ e.1, e.2)) (b :: ks.flatMap Kid.F)

/-- a block that may have turned, but for what a node asks of it: a leaf's value -/
def Like (w w' : World) (b : Nat) : Prop :=
  w'.heap[b]? = w.heap[b]? ∨ ∃ C C', Blk w b 267 C ∧ Blk w' b 267 C' ∧ C'.size = C.size ∧ C'[5]? = C[5]?

theorem NK.ty_ne (k : NK) : k.ty ≠ 267 := by cases k <;> decide

theorem Like.blk {w w' : World} {b : Nat} {t : TypeId} {C : Array Value} (h : Like w w' b) (hb : Blk w b t C) (ht : t ≠ 267) : Blk w' b t C := by
  rcases h with h | ⟨D, D', h1, _⟩
  · exact hb.of_eq h
  · exact absurd (hb.inj h1).2 ht

theorem TNode.like {w w' : World} {v : Value} {M : List Ent} {F : List Nat} (h : TNode w v M F) : (∀ b ∈ F, Like w w' b) → TNode w' v M F := by
  induction h with
  | leaf b s C hb hz hs =>
    intro hl
    rcases hl b (by simp) with h | ⟨D, D', h1, h2, h3, h4⟩
    · exact .leaf b s C (hb.of_eq h) hz hs
    · obtain rfl := (hb.inj h1).1
      exact .leaf b s D' h2 (h3.trans hz) (h4.trans hs)
  | inner k b p ks C hb hC hk hM hd h0 ih =>
    intro hl
    refine .inner k b p ks C ((hl b (by simp)).blk hb k.ty_ne) hC (fun c hc => ih c hc (fun x hx => hl x ?_)) hM hd h0
    simp only [List.mem_cons, List.mem_flatMap]
    exact .inr ⟨c, hc, hx⟩

theorem TNode.same {w w' : World} {v : Value} {M : List Ent} {F : List Nat} (h : TNode w v M F) (hs : ∀ b ∈ F, w'.heap[b]? = w.heap[b]?) : TNode w' v M F :=
  h.like fun b hb => .inl (hs b hb)

theorem TNode.lt {w : World} {v : Value} {M : List Ent} {F : List Nat} (h : TNode w v M F) : ∀ b ∈ F, b < w.heap.size := by
  induction h with
  | leaf b s C hb hz hs => intro x hx; simp at hx; subst hx; exact hb.lt
  | inner k b p ks C hb hC hk hM hd h0 ih =>
    intro x hx
    simp only [List.mem_cons, List.mem_flatMap] at hx
    rcases hx with rfl | ⟨c, hc, hx⟩
    · exact hb.lt
    · exact ih c hc x hx

theorem TNode.keep {w w' : World} {v : Value} {M : List Ent} {F : List Nat} {G : Nat → Prop} (h : TNode w v M F) (hk : Keep G w w') (hG : ∀ b ∈ F, b < w.heap.size → ¬ G b) : TNode w' v M F :=
  h.like fun b hb => .inl (hk.block b (h.lt b hb) (hG b hb (h.lt b hb)))

theorem TNode.ne_nil {w : World} {v : Value} {M : List Ent} {F : List Nat} (h : TNode w v M F) : M ≠ [] := by
  cases h with
  | leaf b s C hb hz hs => simp
  | inner k b p ks C hb hC hk hM hd h0 =>
    cases ks with
    | nil => exact absurd rfl h0
    | cons c t =>
      have := (hM c (by simp)).1
      cases hc : c.M with
      | nil => exact absurd hc this
      | cons e l => simp [hc]

/-- every entry's block is among the node's blocks, and is a leaf -/
theorem TNode.mem_blk {w : World} {v : Value} {M : List Ent} {F : List Nat} (h : TNode w v M F) : ∀ e ∈ M, e.2 ∈ F ∧ ∃ C, Blk w e.2 267 C ∧ C.size = 6 := by
  induction h with
  | leaf b s C hb hz hs => intro e he; simp at he; subst he; exact ⟨by simp, C, hb, hz⟩
  | inner k b p ks C hb hC hk hM hd h0 ih =>
    intro e he
    simp only [List.mem_flatMap, List.mem_map] at he
    obtain ⟨c, hc, e', he', rfl⟩ := he
    obtain ⟨h1, h2⟩ := ih c hc e' he'
    exact ⟨by simp only [List.mem_cons, List.mem_flatMap]; exact .inr ⟨c, hc, h1⟩, h2⟩

end Go.Proofs.YtmblkpjnafgplaaGreatDoor
