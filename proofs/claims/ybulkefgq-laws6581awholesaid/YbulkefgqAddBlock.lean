/-
  The walk of (*blockRun).addBlock (4).
-/
import Derived.Test.YbulkefgqRun
namespace Go.Proofs.Ybulkefgq
open Go.RowKit

set_option maxRecDepth 100000 in
set_option maxHeartbeats 1000000 in
theorem addBlock_zero (rb : Nat) (w : World) : Calls Yba.prog 4 #[.pointer (some ⟨rb, 0, none⟩), .agg (locA 0)] w fun e w' => e = .returned (.tuple #[]) ∧ w.grownBy w' none := by
  unfold locA
  go_enter Yba.func4, Yba.ntmps4
  go_wp2
  refine bodyPost_ret (results_none rfl _ _ _) rfl ⟨rfl, World.grownBy_alloc w _ none⟩

set_option maxRecDepth 100000 in
set_option maxHeartbeats 2000000 in
theorem addBlock_some {w0 : World} {base rb : Nat} {eo : Bool} {xs ss : List Int} {t : Int} {hE : Value} {pE : List Value} {hL : Value} {pL : List Value} (h0 : Run w0 base rb eo xs ss t hE pE hL pL) (s : Int) (hs : 0 < s) (hs2 : s ≤ 65535) (ht : 0 ≤ t) (ht2 : t ≤ 1099511627776) (hn : xs.length ≤ 1048576) :
    Calls Yba.prog 4 #[.pointer (some ⟨rb, 0, none⟩), .agg (locA s)] w0 fun e w' => e = .returned (.tuple #[]) ∧
      ∃ hE' pE' hL' pL', Run w' base rb eo (xs ++ [t + s]) (ss ++ [s]) (t + s) hE' pE' hL' pL' ∧ (∀ k, RF hE' pE' hL' pL' k → RF hE pE hL pL k ∨ w0.heap.size ≤ k) ∧ Out rb (RF hE pE hL pL) w0 w' := by
  unfold locA
  have hsz : (s == 0) = false := by simp; omega
  go_enter Yba.func4, Yba.ntmps4
  go_wp2
  have h := h0.grown (World.grownBy_alloc w0 (.cells #[.int .u8 0, .int .u8 0, .int .u8 0, .int .u8 0, .int .u8 0, .int .u8 0, .int .u8 0, .int .u8 0, .int .u8 0, .int .u8 0, .int .u8 0, .int .u8 0, .int .u8 0, .int .u8 0, .int .u8 0, .int .u8 0, .int .i64 s, .slice none 0 0] 37) none)
  have hgw := World.grownBy_alloc w0 (.cells #[.int .u8 0, .int .u8 0, .int .u8 0, .int .u8 0, .int .u8 0, .int .u8 0, .int .u8 0, .int .u8 0, .int .u8 0, .int .u8 0, .int .u8 0, .int .u8 0, .int .u8 0, .int .u8 0, .int .u8 0, .int .u8 0, .int .i64 s, .slice none 0 0] 37) none
  have hbx := (MapKept.heap_alloc w0 (.cells #[.int .u8 0, .int .u8 0, .int .u8 0, .int .u8 0, .int .u8 0, .int .u8 0, .int .u8 0, .int .u8 0, .int .u8 0, .int .u8 0, .int .u8 0, .int .u8 0, .int .u8 0, .int .u8 0, .int .u8 0, .int .u8 0, .int .i64 s, .slice none 0 0] 37)).1
  have hfb : ∀ k, RF hE pE hL pL k → k < w0.heap.size := fun k hk => (h0.fp_lt hk).2
  have hrb0 := h0.E.rb_lt
  generalize (w0.alloc (.cells #[.int .u8 0, .int .u8 0, .int .u8 0, .int .u8 0, .int .u8 0, .int .u8 0, .int .u8 0, .int .u8 0, .int .u8 0, .int .u8 0, .int .u8 0, .int .u8 0, .int .u8 0, .int .u8 0, .int .u8 0, .int .u8 0, .int .i64 s, .slice none 0 0] 37)) = w at *
  have x16 : w.cell? ⟨w0.heap.size, 16, none⟩ = some (.int .i64 s) := (cell_of_row w w0.heap.size 16 _ 37 _ hbx).trans rfl
  have c4 := h.c4
  have z4 := h.z4
  have HGW := toHid hgw
  have HBX := toHid hbx
  have HFB := toHid hfb
  have H2 := toHid ((h.set4 (t + s)).grown (grownBy_drew _ none))
  clear h0 hgw hbx hfb h
  go_region
  have HO := toHid (show Out rb (RF hE pE hL pL) w ((w.setCell ⟨rb, 4, none⟩ (.int .i64 (t + s))).drew) from Out.of_rb (grownBy_trans (grownBy_setCell w rb 4 _) (grownBy_drew _ _)))
  have hbx1 : ((w.setCell ⟨rb, 4, none⟩ (.int .i64 (t + s))).drew).heap[w0.heap.size]? = some (.cells #[.int .u8 0, .int .u8 0, .int .u8 0, .int .u8 0, .int .u8 0, .int .u8 0, .int .u8 0, .int .u8 0, .int .u8 0, .int .u8 0, .int .u8 0, .int .u8 0, .int .u8 0, .int .u8 0, .int .u8 0, .int .u8 0, .int .i64 s, .slice none 0 0] 37) := (Below.heap_setCell w ⟨rb, 4, none⟩ _ w0.heap.size (by show w0.heap.size ≠ rb; omega)).trans HBX.out
  have hsz1 : w0.heap.size < w.heap.size := (Array.getElem?_eq_some_iff.1 HBX.out).1
  generalize (w.setCell ⟨rb, 4, none⟩ (.int .i64 (t + s))).drew = v at *
  have c4' := H2.out.c4
  have HB1 := toHid hbx1
  clear c4 z4 x16 hbx1
  go_wp2
  go_region_with (go_at_call 11; refine (addE (t + s) _ (by exact H2.out.E.grown (grownBy_drew v none)) (by rw [ints_length]; exact hn) (by rw [ints_length]; exact H2.out.nE)).mono ?_; rintro e v2 ⟨rfl, ha⟩)
  obtain ⟨hE', pE', h1, h2, h3, h4, h5, h6, h7, h8, h9⟩ := (H2.out.grown (grownBy_drew v none)).addE ha
  have hbx2 := (h9.block w0.heap.size (by have := HO.out.size; show w0.heap.size < v.heap.size; omega) (by omega) (fun hi => by have := HFB.out _ hi; omega)).trans HB1.out
  cases eo with
  | true =>
    have HF := toHid ((H2.out.grown (grownBy_drew v none)).addE_only (s := s) ha)
    clear ha h1 h2 h3 h5 h7 h8 h9 hbx2
    go_wp2
    go_end0
    obtain ⟨a1, a2, a3, a4, k1, k2, k3⟩ := HF.out
    refine ⟨rfl, a1, a2, a3, a4, k1, fun k hk => ?_, (Out.grown HGW.out).trans (HO.out.trans ((Out.grown (grownBy_drew v none)).trans k3 (fun j hj => Or.inl hj)) (fun j hj => Or.inl hj)) (fun j hj => Or.inl hj)⟩
    rcases k2 k hk with k4 | k4
    · exact Or.inl k4
    · exact Or.inr (by have := HO.out.size; have : v.heap.size ≤ k := k4; omega)
  | false =>
    have y0 : v2.cell? ⟨w0.heap.size, 0, none⟩ = some (.int .u8 0) := (cell_of_row v2 w0.heap.size 0 _ 37 _ hbx2).trans rfl
    have y1 : v2.cell? ⟨w0.heap.size, 1, none⟩ = some (.int .u8 0) := (cell_of_row v2 w0.heap.size 1 _ 37 _ hbx2).trans rfl
    have y2 : v2.cell? ⟨w0.heap.size, 2, none⟩ = some (.int .u8 0) := (cell_of_row v2 w0.heap.size 2 _ 37 _ hbx2).trans rfl
    have y3 : v2.cell? ⟨w0.heap.size, 3, none⟩ = some (.int .u8 0) := (cell_of_row v2 w0.heap.size 3 _ 37 _ hbx2).trans rfl
    have y4 : v2.cell? ⟨w0.heap.size, 4, none⟩ = some (.int .u8 0) := (cell_of_row v2 w0.heap.size 4 _ 37 _ hbx2).trans rfl
    have y5 : v2.cell? ⟨w0.heap.size, 5, none⟩ = some (.int .u8 0) := (cell_of_row v2 w0.heap.size 5 _ 37 _ hbx2).trans rfl
    have y6 : v2.cell? ⟨w0.heap.size, 6, none⟩ = some (.int .u8 0) := (cell_of_row v2 w0.heap.size 6 _ 37 _ hbx2).trans rfl
    have y7 : v2.cell? ⟨w0.heap.size, 7, none⟩ = some (.int .u8 0) := (cell_of_row v2 w0.heap.size 7 _ 37 _ hbx2).trans rfl
    have y8 : v2.cell? ⟨w0.heap.size, 8, none⟩ = some (.int .u8 0) := (cell_of_row v2 w0.heap.size 8 _ 37 _ hbx2).trans rfl
    have y9 : v2.cell? ⟨w0.heap.size, 9, none⟩ = some (.int .u8 0) := (cell_of_row v2 w0.heap.size 9 _ 37 _ hbx2).trans rfl
    have y10 : v2.cell? ⟨w0.heap.size, 10, none⟩ = some (.int .u8 0) := (cell_of_row v2 w0.heap.size 10 _ 37 _ hbx2).trans rfl
    have y11 : v2.cell? ⟨w0.heap.size, 11, none⟩ = some (.int .u8 0) := (cell_of_row v2 w0.heap.size 11 _ 37 _ hbx2).trans rfl
    have y12 : v2.cell? ⟨w0.heap.size, 12, none⟩ = some (.int .u8 0) := (cell_of_row v2 w0.heap.size 12 _ 37 _ hbx2).trans rfl
    have y13 : v2.cell? ⟨w0.heap.size, 13, none⟩ = some (.int .u8 0) := (cell_of_row v2 w0.heap.size 13 _ 37 _ hbx2).trans rfl
    have y14 : v2.cell? ⟨w0.heap.size, 14, none⟩ = some (.int .u8 0) := (cell_of_row v2 w0.heap.size 14 _ 37 _ hbx2).trans rfl
    have y15 : v2.cell? ⟨w0.heap.size, 15, none⟩ = some (.int .u8 0) := (cell_of_row v2 w0.heap.size 15 _ 37 _ hbx2).trans rfl
    have y16 : v2.cell? ⟨w0.heap.size, 16, none⟩ = some (.int .i64 s) := (cell_of_row v2 w0.heap.size 16 _ 37 _ hbx2).trans rfl
    have y17 : v2.cell? ⟨w0.heap.size, 17, none⟩ = some (.slice none 0 0) := (cell_of_row v2 w0.heap.size 17 _ 37 _ hbx2).trans rfl
    have H1 := toHid h1
    have H2' := toHid h2
    have H3 := toHid h3
    have H5 := toHid h5
    have H7 := toHid h7
    have H8 := toHid h8
    have H9 := toHid h9
    clear ha h1 h2 h3 h5 h7 h8 h9 hbx2
    go_wp2
    go_region_with (go_at_call 12; refine (addL s _ (by exact H3.out.grown (grownBy_drew v2 none)) (by rw [locs_length]; have := H2.out.len; exact this ▸ hn) (by rw [locs_length]; exact H2.out.nL)).mono ?_; rintro e v3 ⟨rfl, hb⟩)
    have HF := toHid (Run.addBoth (s := s) (H2.out.grown (grownBy_drew v none)) (H1.out.grown (grownBy_drew v2 none)) H2'.out h4 H5.out h6 H7.out H8.out (H9.out.trans (Out.grown (grownBy_drew v2 none)) (fun j hj => Or.inl hj)) hb)
    clear hb
    go_wp2
    go_end0
    obtain ⟨a1, a2, a3, a4, k1, k2, k3⟩ := HF.out
    refine ⟨rfl, a1, a2, a3, a4, k1, fun k hk => ?_, (Out.grown HGW.out).trans (HO.out.trans ((Out.grown (grownBy_drew v none)).trans k3 (fun j hj => Or.inl hj)) (fun j hj => Or.inl hj)) (fun j hj => Or.inl hj)⟩
    rcases k2 k hk with k4 | k4
    · exact Or.inl k4
    · exact Or.inr (by have := HO.out.size; have : v.heap.size ≤ k := k4; omega)
end Go.Proofs.Ybulkefgq
