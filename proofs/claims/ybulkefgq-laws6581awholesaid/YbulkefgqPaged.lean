/-
  A paged list in memory, as plain facts: the header and the count in the struct's cells; the pages, each a row of its own; what an item more does. No walk here.
-/
import Derived.Test.YbulkefgqRows
import Derived.WalkKit
import Derived.Below
import Derived.OwnWalk
import Derived.Deep.AppendLies
namespace Go.Proofs.Ybulkefgq
open Go.RowKit

/-! ### Lists in chunks of 4096 -/
def chunk (k : Nat) (E : List (List Value)) : List (List Value) := (E.drop (4096 * k)).take 4096
theorem chunk_length (k : Nat) (E : List (List Value)) : (chunk k E).length = min 4096 (E.length - 4096 * k) := by simp [chunk]
theorem chunk_snoc_same (E : List (List Value)) (x : List Value) : chunk (E.length / 4096) (E ++ [x]) = chunk (E.length / 4096) E ++ [x] := by
  unfold chunk
  have h1 : 4096 * (E.length / 4096) ≤ E.length := by omega
  rw [List.drop_append_of_le_length h1]
  have h2 : (E.drop (4096 * (E.length / 4096))).length < 4096 := by rw [List.length_drop]; omega
  rw [List.take_append, List.take_of_length_le (by omega)]
  congr 1
  rw [List.take_of_length_le (by simp; omega)]
theorem chunk_snoc_other {k : Nat} {E : List (List Value)} (x : List Value) (h : k ≠ E.length / 4096) : chunk k (E ++ [x]) = chunk k E := by
  unfold chunk
  by_cases h1 : 4096 * k ≤ E.length
  · rw [List.drop_append_of_le_length h1, List.take_append_of_le_length (by rw [List.length_drop]; omega)]
  · rw [List.drop_eq_nil_of_le (by simp; omega), List.drop_eq_nil_of_le (by omega)]
theorem chunk_get {E : List (List Value)} {i : Nat} : (chunk (i / 4096) E)[i % 4096]? = E[i]? := by
  unfold chunk
  rw [List.getElem?_take, if_pos (Nat.mod_lt _ (by decide)), List.getElem?_drop]
  congr 1
  omega
theorem flatten_length {sz : Nat} : ∀ (E : List (List Value)), (∀ x ∈ E, x.length = sz) → E.flatten.length = E.length * sz
  | [], _ => by simp
  | x :: r, h => by
    rw [List.flatten_cons, List.length_append, flatten_length r (fun y hy => h y (by simp [hy])), h x (by simp), List.length_cons, Nat.add_mul, Nat.one_mul, Nat.add_comm]
theorem flatten_get {sz c : Nat} (hc : c < sz) : ∀ (E : List (List Value)) (j : Nat), (∀ x ∈ E, x.length = sz) → E.flatten[j * sz + c]? = (E[j]?).bind (fun x => x[c]?)
  | [], _, _ => by simp
  | x :: r, 0, h => by
    have hx : x.length = sz := h x (by simp)
    rw [List.flatten_cons, Nat.zero_mul, Nat.zero_add, List.getElem?_append_left (by omega)]
    simp
  | x :: r, j + 1, h => by
    have hx : x.length = sz := h x (by simp)
    rw [List.flatten_cons, List.getElem?_append_right (by rw [Nat.add_mul]; omega), hx, show (j + 1) * sz + c - sz = j * sz + c by rw [Nat.add_mul]; omega, flatten_get hc r j (fun y hy => h y (by simp [hy]))]
    simp
theorem mem_chunk {k : Nat} {E : List (List Value)} {x : List Value} (h : x ∈ chunk k E) : x ∈ E := List.mem_of_mem_drop (List.mem_of_mem_take h)

/-! ### The footprint, and what stands outside it -/
def inF (hdr : Value) (pv : List Value) (k : Nat) : Prop := hdr.ownBlock = some k ∨ ∃ v ∈ pv, v.ownBlock = some k

/-- From w to w': of the blocks that were there only rb and those of the footprint may have turned; of rb only the two cells from off on. -/
structure Fr (rb off : Nat) (fp : Nat → Prop) (w w' : World) : Prop where
  os : w'.os = w.os
  tape : w'.tape = w.tape
  output : w'.output = w.output
  size : w.heap.size ≤ w'.heap.size
  block : ∀ k, k < w.heap.size → k ≠ rb → ¬ fp k → w'.heap[k]? = w.heap[k]?
  rcell : ∀ o, o ≠ off → o ≠ off + 1 → w'.cell? ⟨rb, o, none⟩ = w.cell? ⟨rb, o, none⟩
  rfz : ∀ o, w'.frozen? ⟨rb, o, none⟩ = w.frozen? ⟨rb, o, none⟩

theorem Fr.refl (rb off : Nat) (fp : Nat → Prop) (w : World) : Fr rb off fp w w := ⟨rfl, rfl, rfl, Nat.le_refl _, fun _ _ _ _ => rfl, fun _ _ _ => rfl, fun _ => rfl⟩
theorem Fr.trans {rb off : Nat} {fp fp1 : Nat → Prop} {a b c : World} (h : Fr rb off fp a b) (k : Fr rb off fp1 b c) (hf : ∀ j, fp1 j → fp j ∨ a.heap.size ≤ j) : Fr rb off fp a c :=
  ⟨k.os.trans h.os, k.tape.trans h.tape, k.output.trans h.output, Nat.le_trans h.size k.size,
   fun j hj hne hn => (k.block j (Nat.lt_of_lt_of_le hj h.size) hne (fun h1 => by rcases hf j h1 with h2 | h2; exact hn h2; omega)).trans (h.block j hj hne hn),
   fun o h1 h2 => (k.rcell o h1 h2).trans (h.rcell o h1 h2), fun o => (k.rfz o).trans (h.rfz o)⟩
/-- What grows by a row of the footprint, rb aside. -/
theorem Fr.grown {rb off : Nat} {fp : Nat → Prop} {w w' : World} {row : Option Nat} (h : w.grownBy w' row) (hrb : rb < w.heap.size) (hne : some rb ≠ row) (hr : ∀ k, row = some k → fp k) : Fr rb off fp w w' :=
  ⟨h.os, h.tape, h.output, h.size, fun k hk _ hn => h.block k hk (fun e => hn (hr k e.symm)),
   fun o _ _ => World.cell?_of_block (a := ⟨rb, o, none⟩) (h.block rb hrb hne), fun o => World.frozen?_of_block (a := ⟨rb, o, none⟩) (h.block rb hrb hne)⟩
theorem Fr.set {rb off : Nat} {fp : Nat → Prop} (w : World) (o : Nat) (v : Value) (ho : o = off ∨ o = off + 1) : Fr rb off fp w (w.setCell ⟨rb, o, none⟩ v) :=
  ⟨rfl, rfl, rfl, by simp, fun k _ hne _ => Below.heap_setCell _ _ _ _ hne,
   fun q h1 h2 => World.cell?_setCell_other _ _ _ _ (by simp <;> omega), fun q => World.frozen?_setCell _ _ _ _⟩

/-! ### The list -/
structure PL (w : World) (base e te sz rb off : Nat) (E : List (List Value)) (hdr : Value) (pv : List Value) : Prop where
  el : ∀ x ∈ E, x.length = sz
  hc : w.cell? ⟨rb, off, none⟩ = some hdr
  nc : w.cell? ⟨rb, off + 1, none⟩ = some (.int .i64 E.length)
  hz : w.frozen? ⟨rb, off, none⟩ = false
  nz : w.frozen? ⟨rb, off + 1, none⟩ = false
  own : w.ownsRow base te 1 hdr pv.length pv
  full : E.length ≤ 4096 * pv.length
  page : ∀ (k : Nat) (v : Value), pv[k]? = some v → w.ownsRow base e sz v (chunk k E).length (chunk k E).flatten
  dist : ∀ (i j : Nat) (v u : Value), pv[i]? = some v → pv[j]? = some u → i ≠ j → v.ownBlock ≠ u.ownBlock
  dist0 : ∀ (i : Nat) (v : Value), pv[i]? = some v → v.ownBlock ≠ hdr.ownBlock
  low : rb < base
  baseLe : base ≤ w.heap.size

variable {w w' : World} {base e te sz rb off : Nat} {E : List (List Value)} {hdr : Value} {pv : List Value}

theorem PL.rb_lt (h : PL w base e te sz rb off E hdr pv) : rb < w.heap.size := World.block_lt_of_cell? w _ h.hc

/-- The footprint lies from base on, below the heap's end. -/
theorem PL.fp_lt (h : PL w base e te sz rb off E hdr pv) {k : Nat} (hk : inF hdr pv k) : base ≤ k ∧ k < w.heap.size := by
  rcases hk with hk | ⟨v, hv, hk⟩
  · exact h.own.lt k hk
  · obtain ⟨i, hi⟩ := List.getElem?_of_mem hv
    exact (h.page i v hi).lt k hk

/-- Where the footprint's blocks and the struct's two cells stand, the list stands. -/
theorem PL.kept (h : PL w base e te sz rb off E hdr pv) (hb : ∀ k, k < w.heap.size → inF hdr pv k → w'.heap[k]? = w.heap[k]?) (hs : w.heap.size ≤ w'.heap.size)
    (c0 : w'.cell? ⟨rb, off, none⟩ = w.cell? ⟨rb, off, none⟩) (c1 : w'.cell? ⟨rb, off + 1, none⟩ = w.cell? ⟨rb, off + 1, none⟩)
    (z0 : w'.frozen? ⟨rb, off, none⟩ = w.frozen? ⟨rb, off, none⟩) (z1 : w'.frozen? ⟨rb, off + 1, none⟩ = w.frozen? ⟨rb, off + 1, none⟩) :
    PL w' base e te sz rb off E hdr pv := by
  have key : ∀ (e' size' : Nat) (v : Value) (n : Nat) (xs : List Value), w.ownsRow base e' size' v n xs → (∀ k, v.ownBlock = some k → inF hdr pv k) → w'.ownsRow base e' size' v n xs := by
    intro e' size' v n xs ho hf
    refine ⟨ho.1, ?_⟩
    rcases ho.2 with hn | ⟨g, cap, cur, rfl, hbg, hg, r⟩
    · exact .inl hn
    · exact .inr ⟨g, cap, cur, rfl, hbg, by rw [hb g (Array.getElem?_eq_some_iff.1 hg).1 (hf g rfl)]; exact hg, r⟩
  exact ⟨h.el, c0.trans h.hc, c1.trans h.nc, z0.trans h.hz, z1.trans h.nz, key _ _ _ _ _ h.own (fun k hk => Or.inl hk), h.full,
    fun k v hv => key _ _ _ _ _ (h.page k v hv) (fun j hj => Or.inr ⟨v, List.mem_of_getElem? hv, hj⟩), h.dist, h.dist0, h.low, Nat.le_trans h.baseLe hs⟩
theorem PL.grown (h : PL w base e te sz rb off E hdr pv) (hg : w.grownBy w' none) : PL w' base e te sz rb off E hdr pv :=
  h.kept (fun k hk _ => hg.block k hk (by simp)) hg.size (hg.cell_far ⟨rb, off, none⟩ h.rb_lt (by simp)) (hg.cell_far ⟨rb, off + 1, none⟩ h.rb_lt (by simp)) (hg.frozen_far ⟨rb, off, none⟩ h.rb_lt (by simp)) (hg.frozen_far ⟨rb, off + 1, none⟩ h.rb_lt (by simp))
/-- Across a step that is framed by another list's footprint and cells. -/
theorem PL.framed {off' : Nat} {fp : Nat → Prop} (h : PL w base e te sz rb off E hdr pv) (hf : Fr rb off' fp w w') (ho : off ≠ off' ∧ off ≠ off' + 1 ∧ off + 1 ≠ off' ∧ off + 1 ≠ off' + 1) (hd : ∀ k, inF hdr pv k → ¬ fp k) :
    PL w' base e te sz rb off E hdr pv :=
  h.kept (fun k hk hi => hf.block k hk (by have := (h.fp_lt hi).1; have := h.low; omega) (hd k hi)) hf.size (hf.rcell _ ho.1 ho.2.1) (hf.rcell _ ho.2.2.1 ho.2.2.2) (hf.rfz _) (hf.rfz _)

/-- Where the i-th item lies. -/
theorem PL.at (h : PL w base e te sz rb off E hdr pv) {i : Nat} (hi : i < E.length) :
    ∃ pg pc g gc len, hdr = .slice (some ⟨pg, 0, none⟩) pv.length pc ∧ i / 4096 < pv.length ∧ w.cell? ⟨pg, i / 4096, none⟩ = some (.slice (some ⟨g, 0, none⟩) len gc) ∧ i % 4096 < len ∧
      ∀ c, c < sz → w.cell? ⟨g, (i % 4096) * sz + c, none⟩ = (E[i]?).bind (fun x => x[c]?) := by
  have hfull := h.full
  have hk : i / 4096 < pv.length := by omega
  obtain ⟨pg, pc, hh, _, _⟩ := h.own.form (by omega)
  subst hh
  obtain ⟨v, hv⟩ : ∃ v, pv[i / 4096]? = some v := ⟨_, List.getElem?_eq_getElem hk⟩
  have ho := h.page _ v hv
  have hcl := chunk_length (i / 4096) E
  have hlen : i % 4096 < (chunk (i / 4096) E).length := by rw [hcl]; omega
  obtain ⟨g, gc, rfl, _, _⟩ := ho.form (by omega)
  refine ⟨pg, pc, g, gc, _, rfl, hk, ?_, hlen, fun c hc => ?_⟩
  · rw [h.own.cellAt _ (by omega)]; exact hv
  · rw [ho.cellAt _ (by
      have : (i % 4096 + 1) * sz ≤ (chunk (i / 4096) E).length * sz := Nat.mul_le_mul_right _ hlen
      rw [Nat.add_mul] at this
      omega)]
    rw [flatten_get hc _ _ (fun x hx => h.el x (mem_chunk hx)), chunk_get]
end Go.Proofs.Ybulkefgq
