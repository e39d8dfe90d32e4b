/-
  The law's own lists: the ends, the sizes and the total, as plain numbers; the state of its first loop. No walk here.
-/
import Derived.Test.YbulkefgqRun
namespace Go.Proofs.Ybulkefgq
open Go.RowKit

/-- Behind k blocks: the ends xs, the sizes ss, the total t. -/
structure Good (xs ss : List Int) (t : Int) (k : Nat) : Prop where
  le : xs.length ≤ k
  len : ss.length = xs.length
  t0 : 0 ≤ t
  t1 : t ≤ 65535 * k
  bd : ∀ i, i < xs.length → 0 < xs.getD i 0 ∧ xs.getD i 0 ≤ t
  up : Up xs
  gap : ∀ i, i < xs.length → ss.getD i 0 = xs.getD i 0 - (if i = 0 then 0 else xs.getD (i - 1) 0)
  last : t = if xs.length = 0 then 0 else xs.getD (xs.length - 1) 0

theorem Good.nil : Good [] [] 0 0 := ⟨by simp, rfl, by omega, by omega, fun i hi => by simp at hi, fun a b _ hb => by simp at hb, fun i hi => by simp at hi, rfl⟩
theorem Good.skip {xs ss : List Int} {t : Int} {k : Nat} (h : Good xs ss t k) : Good xs ss t (k + 1) :=
  ⟨by have := h.le; omega, h.len, h.t0, by have := h.t1; omega, h.bd, h.up, h.gap, h.last⟩
theorem getD_snoc_lt {xs : List Int} {x : Int} {i : Nat} (h : i < xs.length) : (xs ++ [x]).getD i 0 = xs.getD i 0 := by
  rw [List.getD_eq_getElem?_getD, List.getD_eq_getElem?_getD, List.getElem?_append_left h]
theorem getD_snoc_eq {xs : List Int} {x : Int} : (xs ++ [x]).getD xs.length 0 = x := by
  rw [List.getD_eq_getElem?_getD, List.getElem?_append_right (Nat.le_refl _)]; simp
theorem Good.snoc {xs ss : List Int} {t : Int} {k : Nat} (h : Good xs ss t k) {s : Int} (h0 : 0 < s) (h1 : s ≤ 65535) : Good (xs ++ [t + s]) (ss ++ [s]) (t + s) (k + 1) := by
  have hle := h.le; have hlen := h.len; have ht0 := h.t0; have ht1 := h.t1; have hl := h.last
  have hL : (xs ++ [t + s]).length = xs.length + 1 := by simp
  refine ⟨by rw [hL]; omega, by simp [hlen], by omega, by omega, fun i hi => ?_, fun a b hab hb => ?_, fun i hi => ?_, ?_⟩
  · rw [hL] at hi
    by_cases e : i = xs.length
    · subst e; rw [getD_snoc_eq]; omega
    · rw [getD_snoc_lt (by omega)]; have := h.bd i (by omega); omega
  · rw [hL] at hb
    by_cases e : b = xs.length
    · subst e; rw [getD_snoc_eq, getD_snoc_lt hab]; have := h.bd a hab; omega
    · rw [getD_snoc_lt (by omega), getD_snoc_lt (by omega)]; exact h.up a b hab (by omega)
  · rw [hL] at hi
    by_cases e : i = xs.length
    · subst e
      rw [getD_snoc_eq, show (ss ++ [s]).getD xs.length 0 = s by rw [← hlen]; exact getD_snoc_eq]
      by_cases e0 : xs.length = 0
      · rw [if_pos e0]; rw [if_pos e0] at hl; omega
      · rw [if_neg e0, getD_snoc_lt (by omega)]; rw [if_neg e0] at hl; omega
    · have hi' : i < xs.length := by omega
      rw [getD_snoc_lt hi', show (ss ++ [s]).getD i 0 = ss.getD i 0 from getD_snoc_lt (by omega), h.gap i hi']
      by_cases e0 : i = 0
      · rw [if_pos e0, if_pos e0]
      · rw [if_neg e0, if_neg e0, getD_snoc_lt (by omega)]
  · rw [hL, if_neg (by omega), show xs.length + 1 - 1 = xs.length by omega, getD_snoc_eq]

variable {w w' : World} {base rb : Nat} {eo : Bool} {xs ss : List Int} {t : Int} {hE : Value} {pE : List Value} {hL : Value} {pL : List Value}

/-- A block apart from the run is written. -/
theorem Run.other {g : Nat} (h : Run w base rb eo xs ss t hE pE hL pL) (hg : w.grownBy w' (some g)) (h1 : ¬ RF hE pE hL pL g) (h2 : g ≠ rb) : Run w' base rb eo xs ss t hE pE hL pL := by
  have hb : ∀ k, k < w.heap.size → k ≠ g → w'.heap[k]? = w.heap[k]? := fun k hk hne => hg.block k hk (by simpa using hne)
  have hrb := hb rb h.E.rb_lt (fun e => h2 e.symm)
  have hc : ∀ o, w'.cell? ⟨rb, o, none⟩ = w.cell? ⟨rb, o, none⟩ := fun o => World.cell?_of_block (a := ⟨rb, o, none⟩) hrb
  have hz : ∀ o, w'.frozen? ⟨rb, o, none⟩ = w.frozen? ⟨rb, o, none⟩ := fun o => World.frozen?_of_block (a := ⟨rb, o, none⟩) hrb
  exact ⟨h.E.kept (fun k hk hi => hb k hk (fun e => h1 (by rw [← e]; exact Or.inl hi))) hg.size (hc _) (hc _) (hz _) (hz _), h.nE,
    h.L.kept (fun k hk hi => hb k hk (fun e => h1 (by rw [← e]; exact Or.inr hi))) hg.size (hc _) (hc _) (hz _) (hz _), h.nL, h.len, (hc _).trans h.c4, (hz _).trans h.z4, (hc _).trans h.c5, h.dis⟩

/-- The first loop's state: the run, the law's own slice of ends, and that of old memory nothing has turned. -/
def LIn (w0 : World) (rb : Nat) (eo : Bool) (xs ss : List Int) (t : Int) (eg ec : Nat) (w : World) : Prop :=
  ∃ hE pE hL pL, Run w (rb + 1) rb eo xs ss t hE pE hL pL ∧ w.ownsRow (rb + 1) 2 1 (.slice (some ⟨eg, 0, none⟩) xs.length ec) xs.length (xs.map (Value.int .i64)) ∧ ¬ RF hE pE hL pL eg ∧ Below w0.heap.size w0 w ∧ w0.heap.size ≤ rb

theorem LIn.grown {w0 : World} {eg ec : Nat} (h : LIn w0 rb eo xs ss t eg ec w) (hg : w.grownBy w' none) : LIn w0 rb eo xs ss t eg ec w' := by
  obtain ⟨hE, pE, hL, pL, h1, h2, h3, h4, h5⟩ := h
  exact ⟨hE, pE, hL, pL, h1.grown hg, h2.kept hg (Or.inr (by simp [Value.ownBlock])), h3, h4.grown hg h4.size (by simp), h5⟩
/-- Behind addBlock: the ends as they were, for the law's own append to come. -/
theorem LIn.added {w0 : World} {eg ec : Nat} {x : Int} {s : Int} (h1 : Run w (rb + 1) rb eo xs ss t hE pE hL pL) (h2 : w.ownsRow (rb + 1) 2 1 (.slice (some ⟨eg, 0, none⟩) xs.length ec) xs.length (xs.map (Value.int .i64))) (h3 : ¬ RF hE pE hL pL eg) (h4 : Below w0.heap.size w0 w) (h5 : w0.heap.size ≤ rb)
    (ha : ∃ hE' pE' hL' pL', Run w' (rb + 1) rb eo (xs ++ [x]) (ss ++ [s]) x hE' pE' hL' pL' ∧ (∀ k, RF hE' pE' hL' pL' k → RF hE pE hL pL k ∨ w.heap.size ≤ k) ∧ Out rb (RF hE pE hL pL) w w') :
    ∃ hE pE hL pL, Run w' (rb + 1) rb eo (xs ++ [x]) (ss ++ [s]) x hE pE hL pL ∧ w'.ownsRow (rb + 1) 2 1 (.slice (some ⟨eg, 0, none⟩) xs.length ec) xs.length (xs.map (Value.int .i64)) ∧ ¬ RF hE pE hL pL eg ∧ Below w0.heap.size w0 w' ∧ rb + 1 ≤ eg := by
  obtain ⟨hE', pE', hL', pL', k1, k2, k3⟩ := ha
  have hlt := h2.lt eg rfl
  have hb := k3.block eg hlt.2 (by omega) h3
  refine ⟨hE', pE', hL', pL', k1, ?_, fun hk => ?_, k3.below h4 h5 (fun k hk => by have := (h1.fp_lt hk).1; omega), hlt.1⟩
  · refine ⟨h2.1, ?_⟩
    rcases h2.2 with ⟨hn, _⟩ | ⟨g, cap, cur, hv, hbg, hg, r⟩
    · cases hn
    · simp only [Value.slice.injEq, Option.some.injEq, Addr.mk.injEq, and_true, true_and] at hv
      obtain ⟨rfl, rfl⟩ := hv
      exact .inr ⟨eg, ec, cur, rfl, hbg, by rw [hb]; exact hg, r⟩
  · rcases k2 eg hk with k4 | k4
    · exact h3 k4
    · omega
/-- Behind the append to the law's own slice. -/
theorem LIn.appended {w0 W w1 : World} {eg g cap : Nat} {x : Int} {s : Int} {hE : Value} {pE : List Value} {hL : Value} {pL : List Value}
    (k1 : Run w (rb + 1) rb eo (xs ++ [x]) (ss ++ [s]) x hE pE hL pL) (k2 : ¬ RF hE pE hL pL eg) (k3 : Below w0.heap.size w0 w) (k4 : w0.heap.size ≤ rb) (hle : rb + 1 ≤ eg) (hgW : w.grownBy W none)
    (hown : w1.ownsRow (rb + 1) 2 1 (.slice (some ⟨g, 0, none⟩) (xs.length + 1) cap) (xs.length + 1) (xs.map (Value.int .i64) ++ [.int .i64 x])) (hg : W.grownBy w1 (some eg)) (hat : some eg = some g ∨ g = W.heap.size) :
    LIn w0 rb eo (xs ++ [x]) (ss ++ [s]) x g cap w1 := by
  have r1 := (k1.grown hgW).other hg k2 (by omega)
  refine ⟨hE, pE, hL, pL, r1, ?_, fun hk => ?_, (k3.grown hgW k3.size (by simp)).grown hg (Nat.le_trans k3.size hgW.size) (by rintro k ⟨⟩; omega), k4⟩
  · rw [List.length_append, List.length_singleton, List.map_append]; exact hown
  · rcases hat with hat | hat
    · have : eg = g := by simpa using hat
      subst this; exact k2 hk
    · have := ((k1.grown hgW).fp_lt hk).2; omega
end Go.Proofs.Ybulkefgq
