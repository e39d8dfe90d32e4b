/-
  The walk of PutUint64 (8).
-/
import Derived.Test.YbulkefdyChacha
import Derived.Lib.EndianBits
namespace Go.Proofs.Ybulkefdy
open Go.RowKit
/-- A word's eight bytes, the least first. -/
def leB (v : Int) : List Int := [v % 256, v / 256 % 256, v / 65536 % 256, v / 16777216 % 256, v / 4294967296 % 256, v / 1099511627776 % 256, v / 281474976710656 % 256, v / 72057594037927936]
theorem leB_length (v : Int) : (leB v).length = 8 := rfl
theorem cell_alloc {w : World} {a : Addr} {v : Value} (o : Obj) (h : w.cell? a = some v) : (w.alloc o).cell? a = some v := by
  rw [World.cell?_alloc_lt _ _ _ (World.block_lt_of_cell? w _ h)]; exact h
set_option maxRecDepth 100000 in
set_option maxHeartbeats 2000000 in
theorem put_any (g o n cap : Nat) (v : Int) (h0 : 0 ≤ v) (h1 : v ≤ 18446744073709551615) (x0 x1 x2 x3 x4 x5 x6 x7 : Value) (w : World) (hn : 8 ≤ n)
    (c0 : w.cell? ⟨g, o, none⟩ = some x0) (c1 : w.cell? ⟨g, o + 1, none⟩ = some x1) (c2 : w.cell? ⟨g, o + 2, none⟩ = some x2) (c3 : w.cell? ⟨g, o + 3, none⟩ = some x3) (c4 : w.cell? ⟨g, o + 4, none⟩ = some x4) (c5 : w.cell? ⟨g, o + 5, none⟩ = some x5) (c6 : w.cell? ⟨g, o + 6, none⟩ = some x6) (c7 : w.cell? ⟨g, o + 7, none⟩ = some x7)
    (f0 : w.frozen? ⟨g, o, none⟩ = false) (f1 : w.frozen? ⟨g, o + 1, none⟩ = false) (f2 : w.frozen? ⟨g, o + 2, none⟩ = false) (f3 : w.frozen? ⟨g, o + 3, none⟩ = false) (f4 : w.frozen? ⟨g, o + 4, none⟩ = false) (f5 : w.frozen? ⟨g, o + 5, none⟩ = false) (f6 : w.frozen? ⟨g, o + 6, none⟩ = false) (f7 : w.frozen? ⟨g, o + 7, none⟩ = false) :
    Calls Yba.prog 8 #[.agg #[], .slice (some ⟨g, o, none⟩) n cap, .int .u64 v] w fun e w' => e = .returned (.tuple #[]) ∧ w' = (w.alloc (.cells #[] 36)).setCells g o (U8 (leB v)) := by
  have d0 := cell_alloc (.cells #[] 36) c0
  have d1 := cell_alloc (.cells #[] 36) c1
  have d2 := cell_alloc (.cells #[] 36) c2
  have d3 := cell_alloc (.cells #[] 36) c3
  have d4 := cell_alloc (.cells #[] 36) c4
  have d5 := cell_alloc (.cells #[] 36) c5
  have d6 := cell_alloc (.cells #[] 36) c6
  have d7 := cell_alloc (.cells #[] 36) c7
  have fa0 := (frozen?_alloc_cells w #[] 36 ⟨g, o, none⟩).trans f0
  have fa1 := (frozen?_alloc_cells w #[] 36 ⟨g, o + 1, none⟩).trans f1
  have fa2 := (frozen?_alloc_cells w #[] 36 ⟨g, o + 2, none⟩).trans f2
  have fa3 := (frozen?_alloc_cells w #[] 36 ⟨g, o + 3, none⟩).trans f3
  have fa4 := (frozen?_alloc_cells w #[] 36 ⟨g, o + 4, none⟩).trans f4
  have fa5 := (frozen?_alloc_cells w #[] 36 ⟨g, o + 5, none⟩).trans f5
  have fa6 := (frozen?_alloc_cells w #[] 36 ⟨g, o + 6, none⟩).trans f6
  have fa7 := (frozen?_alloc_cells w #[] 36 ⟨g, o + 7, none⟩).trans f7
  clear c0 c1 c2 c3 c4 c5 c6 c7 f0 f1 f2 f3 f4 f5 f6 f7
  go_enter Yba.func8, Yba.ntmps8
  go_wp2
  go_end0
  exact ⟨rfl, rfl⟩

theorem put_says (g o n cap : Nat) (v : Int) (h0 : 0 ≤ v) (h1 : v ≤ 18446744073709551615) (w : World) (hn : 8 ≤ n) (ht : w.there g o 8) :
    Calls Yba.prog 8 #[.agg #[], .slice (some ⟨g, o, none⟩) n cap, .int .u64 v] w fun e w' => e = .returned (.tuple #[]) ∧ w' = (w.alloc (.cells #[] 36)).setCells g o (U8 (leB v)) := by
  have h : ∀ j, j < 8 → ∃ x, w.cell? ⟨g, o + j, none⟩ = some x := fun j hj => Option.isSome_iff_exists.1 (ht j hj).1
  obtain ⟨x0, c0⟩ := h 0 (by decide)
  obtain ⟨x1, c1⟩ := h 1 (by decide)
  obtain ⟨x2, c2⟩ := h 2 (by decide)
  obtain ⟨x3, c3⟩ := h 3 (by decide)
  obtain ⟨x4, c4⟩ := h 4 (by decide)
  obtain ⟨x5, c5⟩ := h 5 (by decide)
  obtain ⟨x6, c6⟩ := h 6 (by decide)
  obtain ⟨x7, c7⟩ := h 7 (by decide)
  exact put_any g o n cap v h0 h1 x0 x1 x2 x3 x4 x5 x6 x7 w hn c0 c1 c2 c3 c4 c5 c6 c7 (ht 0 (by decide)).2 (ht 1 (by decide)).2 (ht 2 (by decide)).2 (ht 3 (by decide)).2 (ht 4 (by decide)).2 (ht 5 (by decide)).2 (ht 6 (by decide)).2 (ht 7 (by decide)).2

/-- A stretch of a range is laid anew. -/
theorem range_splice {w : World} {b o : Nat} {p old new q : List Value} (h : w.rangeAt b o (p ++ (old ++ q))) (hl : old.length = new.length) :
    (w.setCells b (o + p.length) new).rangeAt b o (p ++ (new ++ q)) := by
  intro j v hv
  by_cases h1 : j < p.length
  · rw [List.getElem?_append_left h1] at hv
    rw [World.cell?_setCells_out b new _ w ⟨b, o + j, none⟩ (fun _ _ => Or.inl (by show o + j < o + p.length; omega))]
    exact h j v (by rw [List.getElem?_append_left h1]; exact hv)
  · rw [List.getElem?_append_right (by omega)] at hv
    by_cases h2 : j - p.length < new.length
    · rw [List.getElem?_append_left h2] at hv
      have := World.cell?_setCells_in b new (o + p.length) w (fun i hi => by
        have hx : (old ++ q)[i]? = some ((old ++ q)[i]'(by rw [List.length_append]; omega)) := List.getElem?_eq_getElem _
        rw [show o + p.length + i = o + (p.length + i) by omega, h (p.length + i) _ (by rw [List.getElem?_append_right (by omega), show p.length + i - p.length = i by omega]; exact hx)]
        rfl) (j - p.length) h2
      rw [show o + p.length + (j - p.length) = o + j by omega] at this
      rw [this, ← hv, List.getElem?_eq_getElem h2]
    · rw [List.getElem?_append_right (by omega)] at hv
      rw [World.cell?_setCells_out b new _ w ⟨b, o + j, none⟩ (fun _ _ => Or.inr (by show o + p.length + new.length ≤ o + j; omega))]
      refine h j v ?_
      rw [List.getElem?_append_right (by omega), List.getElem?_append_right (by omega), hl]
      exact hv
end Go.Proofs.Ybulkefdy
