/-
  The whole run in memory: both lists, the size, the flag; what an item more in each does. No walk here.
-/
import Derived.Test.YbulkefgqBlocks
import Derived.Test.YbulkefgqAddL
namespace Go.Proofs.Ybulkefgq
open Go.RowKit

def locs (ss : List Int) : List (List Value) := ss.map fun s => (locA s).toList
theorem locs_length (ss : List Int) : (locs ss).length = ss.length := by simp [locs]
theorem locs_snoc (ss : List Int) (s : Int) : locs (ss ++ [s]) = locs ss ++ [(locA s).toList] := by simp [locs]
theorem ints_snoc (xs : List Int) (x : Int) : ints (xs ++ [x]) = ints xs ++ [[.int .i64 x]] := by simp [ints]
/-- What lies in the second list: nothing where the run keeps its ends alone. -/
def kept (eo : Bool) (ss : List Int) : List Int := if eo then [] else ss

def RF (hE : Value) (pE : List Value) (hL : Value) (pL : List Value) (k : Nat) : Prop := inF hE pE k ∨ inF hL pL k

/-- From w to w': of the blocks that were there only rb and those of the footprint may have turned. -/
structure Out (rb : Nat) (fp : Nat → Prop) (w w' : World) : Prop where
  os : w'.os = w.os
  tape : w'.tape = w.tape
  output : w'.output = w.output
  size : w.heap.size ≤ w'.heap.size
  block : ∀ k, k < w.heap.size → k ≠ rb → ¬ fp k → w'.heap[k]? = w.heap[k]?
theorem Out.trans {rb : Nat} {fp fp1 : Nat → Prop} {a b c : World} (h : Out rb fp a b) (k : Out rb fp1 b c) (hf : ∀ j, fp1 j → fp j ∨ a.heap.size ≤ j) : Out rb fp a c :=
  ⟨k.os.trans h.os, k.tape.trans h.tape, k.output.trans h.output, Nat.le_trans h.size k.size,
   fun j hj hne hn => (k.block j (Nat.lt_of_lt_of_le hj h.size) hne (fun h1 => by rcases hf j h1 with h2 | h2; exact hn h2; omega)).trans (h.block j hj hne hn)⟩
theorem Out.grown {rb : Nat} {fp : Nat → Prop} {w w' : World} (h : w.grownBy w' none) : Out rb fp w w' := ⟨h.os, h.tape, h.output, h.size, fun k hk _ _ => h.block k hk (by simp)⟩
theorem Out.of_rb {rb : Nat} {fp : Nat → Prop} {w w' : World} (h : w.grownBy w' (some rb)) : Out rb fp w w' := ⟨h.os, h.tape, h.output, h.size, fun k hk hne _ => h.block k hk (by simpa using hne)⟩
theorem Out.fr {rb off : Nat} {fp fp1 : Nat → Prop} {w w' : World} (h : Fr rb off fp1 w w') (hf : ∀ j, fp1 j → fp j) : Out rb fp w w' := ⟨h.os, h.tape, h.output, h.size, fun k hk hne hn => h.block k hk hne (fun h1 => hn (hf k h1))⟩
theorem Out.below {rb : Nat} {fp : Nat → Prop} {w0 w w' : World} (hb : Below w0.heap.size w0 w) (h : Out rb fp w w') (hrb : w0.heap.size ≤ rb) (hf : ∀ k, fp k → w0.heap.size ≤ k) : Below w0.heap.size w0 w' :=
  hb.trans ⟨h.os, h.tape, h.output, h.size, fun k hk => h.block k (Nat.lt_of_lt_of_le hk hb.size) (by omega) (fun h1 => by have := hf k h1; omega)⟩

structure Run (w : World) (base rb : Nat) (eo : Bool) (xs ss : List Int) (t : Int) (hE : Value) (pE : List Value) (hL : Value) (pL : List Value) : Prop where
  E : PL w base 2 31 1 rb 0 (ints xs) hE pE
  nE : pE.length = (xs.length + 4095) / 4096
  L : PL w base 37 53 18 rb 2 (locs (kept eo ss)) hL pL
  nL : pL.length = ((kept eo ss).length + 4095) / 4096
  len : ss.length = xs.length
  c4 : w.cell? ⟨rb, 4, none⟩ = some (.int .i64 t)
  z4 : w.frozen? ⟨rb, 4, none⟩ = false
  c5 : w.cell? ⟨rb, 5, none⟩ = some (.bool eo)
  dis : ∀ k, inF hE pE k → ¬ inF hL pL k

variable {w w' : World} {base rb : Nat} {eo : Bool} {xs ss : List Int} {t : Int} {hE : Value} {pE : List Value} {hL : Value} {pL : List Value}

theorem Run.grown (h : Run w base rb eo xs ss t hE pE hL pL) (hg : w.grownBy w' none) : Run w' base rb eo xs ss t hE pE hL pL :=
  ⟨h.E.grown hg, h.nE, h.L.grown hg, h.nL, h.len, (hg.cell_far ⟨rb, 4, none⟩ h.E.rb_lt (by simp)).trans h.c4, (hg.frozen_far ⟨rb, 4, none⟩ h.E.rb_lt (by simp)).trans h.z4, (hg.cell_far ⟨rb, 5, none⟩ h.E.rb_lt (by simp)).trans h.c5, h.dis⟩
/-- The size is laid anew. -/
theorem Run.set4 (h : Run w base rb eo xs ss t hE pE hL pL) (t' : Int) : Run (w.setCell ⟨rb, 4, none⟩ (.int .i64 t')) base rb eo xs ss t' hE pE hL pL := by
  have hb : ∀ k, k ≠ rb → (w.setCell ⟨rb, 4, none⟩ (.int .i64 t')).heap[k]? = w.heap[k]? := fun k hk => Below.heap_setCell _ _ _ _ hk
  have hc : ∀ o, o ≠ 4 → (w.setCell ⟨rb, 4, none⟩ (.int .i64 t')).cell? ⟨rb, o, none⟩ = w.cell? ⟨rb, o, none⟩ := fun o ho => World.cell?_setCell_other _ _ _ _ (by simp <;> omega)
  have hz : ∀ o, (w.setCell ⟨rb, 4, none⟩ (.int .i64 t')).frozen? ⟨rb, o, none⟩ = w.frozen? ⟨rb, o, none⟩ := fun o => World.frozen?_setCell _ _ _ _
  have hs : w.heap.size ≤ (w.setCell ⟨rb, 4, none⟩ (.int .i64 t')).heap.size := by simp
  exact ⟨h.E.kept (fun k _ hi => hb k (by have := (h.E.fp_lt hi).1; have := h.E.low; omega)) hs (hc _ (by omega)) (hc _ (by omega)) (hz _) (hz _), h.nE,
    h.L.kept (fun k _ hi => hb k (by have := (h.L.fp_lt hi).1; have := h.L.low; omega)) hs (hc _ (by omega)) (hc _ (by omega)) (hz _) (hz _), h.nL, h.len,
    World.cell?_setCell_same _ _ _ h.c4, (hz _).trans h.z4, (hc _ (by omega)).trans h.c5, h.dis⟩

/-- The footprint does not hold rb. -/
theorem Run.rb_not (h : Run w base rb eo xs ss t hE pE hL pL) : ¬ RF hE pE hL pL rb := by
  rintro (h1 | h1)
  · have := (h.E.fp_lt h1).1; have := h.E.low; omega
  · have := (h.L.fp_lt h1).1; have := h.L.low; omega
theorem Run.fp_lt (h : Run w base rb eo xs ss t hE pE hL pL) {k : Nat} (hk : RF hE pE hL pL k) : base ≤ k ∧ k < w.heap.size := by
  rcases hk with h1 | h1
  · exact h.E.fp_lt h1
  · exact h.L.fp_lt h1

/-- An end more (and, in a run that keeps its ends alone, that is all). -/
theorem Run.addE {x : Int} (h : Run w base rb eo xs ss t hE pE hL pL) (ha : AddPost base 2 31 1 rb 0 (ints xs) [.int .i64 x] hE pE w w') :
    ∃ hE' pE', PL w' base 2 31 1 rb 0 (ints (xs ++ [x])) hE' pE' ∧ pE'.length = (xs.length + 1 + 4095) / 4096 ∧ PL w' base 37 53 18 rb 2 (locs (kept eo ss)) hL pL ∧
      w'.cell? ⟨rb, 4, none⟩ = some (.int .i64 t) ∧ w'.frozen? ⟨rb, 4, none⟩ = false ∧ w'.cell? ⟨rb, 5, none⟩ = some (.bool eo) ∧ (∀ k, inF hE' pE' k → ¬ inF hL pL k) ∧
      (∀ k, inF hE' pE' k → inF hE pE k ∨ w.heap.size ≤ k) ∧ Out rb (RF hE pE hL pL) w w' := by
  obtain ⟨hE', pE', h1, h2, h3, h4⟩ := ha
  refine ⟨hE', pE', by rw [ints_snoc]; exact h1, by rw [h2, ints_length]; omega, h.L.framed h3 (by omega) (fun k hk hk2 => h.dis k hk2 hk), (h3.rcell 4 (by omega) (by omega)).trans h.c4, (h3.rfz 4).trans h.z4, (h3.rcell 5 (by omega) (by omega)).trans h.c5, fun k hk hk2 => ?_, h4, Out.fr h3 (fun j hj => Or.inl hj)⟩
  rcases h4 k hk with h5 | h5
  · exact h.dis k h5 hk2
  · have := (h.L.fp_lt hk2).2; omega
theorem Run.addE_only {x : Int} {s : Int} (h : Run w base rb true xs ss x hE pE hL pL) (ha : AddPost base 2 31 1 rb 0 (ints xs) [.int .i64 x] hE pE w w') :
    ∃ hE' pE' hL' pL', Run w' base rb true (xs ++ [x]) (ss ++ [s]) x hE' pE' hL' pL' ∧ (∀ k, RF hE' pE' hL' pL' k → RF hE pE hL pL k ∨ w.heap.size ≤ k) ∧ Out rb (RF hE pE hL pL) w w' := by
  obtain ⟨hE', pE', h1, h2, h3, h4, h5, h6, h7, h8, h9⟩ := h.addE ha
  have := h.len
  refine ⟨hE', pE', hL, pL, ⟨h1, by rw [h2, List.length_append, List.length_singleton], h3, h.nL, by rw [List.length_append, List.length_append, List.length_singleton, List.length_singleton]; omega, h4, h5, h6, h7⟩, ?_, h9⟩
  rintro k (hk | hk)
  · rcases h8 k hk with h10 | h10
    · exact Or.inl (Or.inl h10)
    · exact Or.inr h10
  · exact Or.inl (Or.inr hk)
theorem Run.addBoth {x : Int} {s : Int} {w1 w2 : World} (h : Run w base rb false xs ss x hE pE hL pL) {hE' : Value} {pE' : List Value}
    (h1 : PL w1 base 2 31 1 rb 0 (ints (xs ++ [x])) hE' pE') (h2 : pE'.length = (xs.length + 1 + 4095) / 4096)
    (h4 : w1.cell? ⟨rb, 4, none⟩ = some (.int .i64 x)) (h5 : w1.frozen? ⟨rb, 4, none⟩ = false) (h6 : w1.cell? ⟨rb, 5, none⟩ = some (.bool false)) (h7 : ∀ k, inF hE' pE' k → ¬ inF hL pL k)
    (h8 : ∀ k, inF hE' pE' k → inF hE pE k ∨ w.heap.size ≤ k) (h9 : Out rb (RF hE pE hL pL) w w1)
    (hb : AddPost base 37 53 18 rb 2 (locs ss) (locA s).toList hL pL w1 w2) :
    ∃ hE'' pE'' hL' pL', Run w2 base rb false (xs ++ [x]) (ss ++ [s]) x hE'' pE'' hL' pL' ∧ (∀ k, RF hE'' pE'' hL' pL' k → RF hE pE hL pL k ∨ w.heap.size ≤ k) ∧ Out rb (RF hE pE hL pL) w w2 := by
  obtain ⟨hL', pL', k1, k2, k3, k4⟩ := hb
  have hlen := h.len
  have hsz := h9.size
  refine ⟨hE', pE', hL', pL', ⟨h1.framed k3 (by omega) h7, by rw [h2, List.length_append, List.length_singleton], ?_, ?_, by rw [List.length_append, List.length_append, List.length_singleton, List.length_singleton]; omega, (k3.rcell 4 (by omega) (by omega)).trans h4, (k3.rfz 4).trans h5, (k3.rcell 5 (by omega) (by omega)).trans h6, fun k hk hk2 => ?_⟩, ?_, ?_⟩
  · show PL w2 base 37 53 18 rb 2 (locs (ss ++ [s])) hL' pL'
    rw [locs_snoc]; exact k1
  · show pL'.length = ((ss ++ [s]).length + 4095) / 4096
    rw [k2, locs_length, List.length_append, List.length_singleton]; omega
  · rcases k4 k hk2 with k5 | k5
    · exact h7 k hk k5
    · have := (h1.fp_lt hk).2; omega
  · rintro k (hk | hk)
    · rcases h8 k hk with h10 | h10
      · exact Or.inl (Or.inl h10)
      · exact Or.inr h10
    · rcases k4 k hk with k5 | k5
      · exact Or.inl (Or.inr k5)
      · exact Or.inr (by omega)
  · exact h9.trans (Out.fr (fp := inF hL pL) k3 (fun j hj => hj)) (fun j hj => Or.inl (Or.inr hj))
end Go.Proofs.Ybulkefgq
