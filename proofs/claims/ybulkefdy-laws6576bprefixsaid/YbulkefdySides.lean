/-
  The walk of member.Sides (5): the sides hang on the seed and the node's id alone.
-/
import Derived.Test.YbulkefdyNew
namespace Go.Proofs.Ybulkefdy
open Go.RowKit

/-- The state behind k draws. -/
def gsAt (a : Int) : Nat → GS
  | 0 => gs0 a
  | k + 1 => (gsAt a k).step
theorem gsAt_ok (a : Int) : ∀ k, (gsAt a k).ok
  | 0 => gs0_ok a
  | k + 1 => GS.ok_step (gsAt_ok a k)
/-- The side of the node id. -/
def bit (a : Int) : Nat → Bool
  | 0 => false
  | k + 1 => wrap64 ((gsAt a k).val.tmod 2) == 1

def fls (m : Nat) : Array Value := madeCells #[.bool false] m
theorem fls_at {m k : Nat} (h : k < m) : (fls m)[k]? = some (.bool false) := by
  unfold fls madeCells
  simp [h, Nat.mod_one]
theorem make_runs (m : Nat) (hm : m ≤ 5000) (W : World) : (Instr.makeSlice 23 (.int .i64 m) (.int .i64 m)).run Yba.prog W = .ok (.slice (some ⟨W.heap.size, 0, none⟩) m m) (W.alloc (.cells (fls m) 4)) := by
  have := run_make (P := Yba.prog) W 23 4 Yba.t4 (.bool false) Yba.underlying23 (by kernel_rfl) (by kernel_rfl) .i64 .i64 (m : Int) (m : Int) (by omega) (by omega) (by
    have h1 : Yba.t4.bytes = 1 := by kernel_rfl
    rw [h1]; omega) (by omega)
  have h2 : Yba.t4.size = 1 := by kernel_rfl
  rw [h2, Int.toNat_natCast, Nat.mul_one] at this
  exact this

structure SIn (w : World) (a : Int) (n b S k : Nat) (wr : World) : Prop where
  gen : GenS wr b (gsAt a k)
  src : wr.cell? ⟨S, 0, none⟩ = some (.pointer (some ⟨b, 0, none⟩))
  row : ∀ j, j ≤ n → wr.cell? ⟨S + 1, j, none⟩ = some (.bool (if j ≤ k then bit a j else false))
  fz : ∀ j, wr.frozen? ⟨S + 1, j, none⟩ = false
  below : Below w.heap.size w wr
  hb : b < S
  hS : w.heap.size ≤ S
  hb0 : w.heap.size ≤ b

theorem SIn.next {w wr w' : World} {a : Int} {n b S k : Nat} (h : SIn w a n b S k wr) (hg : wr.grownBy w' (some b)) (gen : GenS w' b (gsAt a (k + 1))) :
    SIn w a n b S (k + 1) (w'.setCell ⟨S + 1, k + 1, none⟩ (.bool (bit a (k + 1)))) := by
  have hb := h.hb
  have hS := h.hS
  have hsz : S + 1 < wr.heap.size := World.block_lt_of_cell? wr _ (h.row 0 (Nat.zero_le _))
  have row' : ∀ j, j ≤ n → w'.cell? ⟨S + 1, j, none⟩ = some (.bool (if j ≤ k then bit a j else false)) := fun j hj => hg.cell (h.row j hj) (by simp; omega)
  refine ⟨Gen.kept gen (Below.heap_setCell _ _ _ _ (by show b ≠ S + 1; omega)), ?_, fun j hj => ?_, fun j => ?_, ?_, hb, hS, h.hb0⟩
  · exact (World.cell?_setCell_other _ _ _ _ (by simp)).trans (hg.cell h.src (by simp; omega))
  · by_cases e : j = k + 1
    · subst e
      rw [if_pos (Nat.le_refl _)]
      exact World.cell?_setCell_same _ _ _ (row' _ hj)
    · rw [World.cell?_setCell_other _ _ _ _ (by simp <;> omega), row' j hj]
      by_cases e2 : j ≤ k
      · rw [if_pos e2, if_pos (by omega)]
      · rw [if_neg e2, if_neg (by omega)]
  · rw [World.frozen?_setCell, World.frozen?_of_block (w := wr) (a := ⟨S + 1, j, none⟩) (hg.block (S + 1) hsz (by simp; omega))]
    exact h.fz j
  · exact (h.below.grown hg (Nat.le_trans hS (by omega)) (by rintro j ⟨⟩; exact h.hb0)).setCell (by show w.heap.size ≤ S + 1; omega) _

theorem SIn.start {w w1 : World} {a : Int} (n b : Nat) (hg : GenS w1 b (gs0 a)) (hb : w.heap.size ≤ b) (hbel : Below w.heap.size w w1) :
    SIn w a n b w1.heap.size 0 ((w1.alloc (.cells #[.pointer (some ⟨b, 0, none⟩)] 29)).alloc (.cells (fls (n + 1)) 4)) := by
  have s1 : (w1.alloc (.cells #[.pointer (some ⟨b, 0, none⟩)] 29)).heap.size = w1.heap.size + 1 := World.size_alloc _ _
  have hlt : b < w1.heap.size := Gen.lt hg
  refine ⟨Gen.grown (Gen.grown hg (World.grownBy_alloc _ _ none) (by simp)) (World.grownBy_alloc _ _ none) (by simp), ?_, fun j hj => ?_, fun j => ?_, ?_, hlt, by omega, hb⟩
  · refine cell_alloc _ ?_
    unfold World.cell?
    rw [(MapKept.heap_alloc w1 _).1]; rfl
  · have := (MapKept.heap_alloc (w1.alloc (.cells #[.pointer (some ⟨b, 0, none⟩)] 29)) (.cells (fls (n + 1)) 4)).1
    rw [s1] at this
    unfold World.cell?
    rw [this]
    show (fls (n + 1))[j]? = _
    rw [fls_at (by omega)]
    by_cases e : j ≤ 0
    · obtain rfl : j = 0 := by omega
      rfl
    · rw [if_neg e]
  · rw [frozen?_alloc_cells, frozen?_alloc_cells]
    simp [World.frozen?]
  · exact (hbel.alloc (by omega) _).alloc (by rw [s1]; omega) _

set_option maxRecDepth 100000 in
set_option maxHeartbeats 1000000 in
theorem sides_any (a : Int) (h0 : 0 ≤ a) (h1 : a ≤ 18446744073709551615) (n : Nat) (hn : n ≤ 4096) (w : World) :
    Calls Yba.prog 5 #[.int .u64 a, .int .i64 n] w fun e w' => ∃ H, e = .returned (.slice (some ⟨H, 0, none⟩) (n + 1) (n + 1)) ∧ w.heap.size ≤ H ∧
      (∀ j, j ≤ n → w'.cell? ⟨H, j, none⟩ = some (.bool (bit a j))) ∧ Below w.heap.size w w' := by
  have hmk : ∀ W : World, (Instr.makeSlice 23 (.int .i64 ((n : Int) + 1)) (.int .i64 ((n : Int) + 1))).run Yba.prog W = .ok (.slice (some ⟨W.heap.size, 0, none⟩) (n + 1) (n + 1)) (W.alloc (.cells (fls (n + 1)) 4)) := fun W => make_runs (n + 1) (by omega) W
  go_enter Yba.func5, Yba.ntmps5
  go_wp2_with (go_at_call 6; refine (new_any a h0 h1 _).mono ?_; rintro e w1 ⟨b, rfl, hb, hg, hbel⟩; have HS := toHid (SIn.start n b hg hb hbel); clear hg hbel)
  clear hmk
  go_loopw [7] (fun t wr => ∃ k : Nat, k ≤ n ∧ t = .int .i64 ((k : Int) + 1) ∧ SIn w a n b w1.heap.size k wr) (fun t _ => n + 1 - (intOf t).toNat)
  case atStart => exact ⟨0, by omega, rfl, HS.out⟩
  case round =>
    obtain ⟨k, hk, rfl, hin⟩ := hrel
    have src := hin.src
    have H := toHid hin
    clear HS
    by_cases hlt : k < n
    · have rk := hin.row (k + 1) (by omega)
      have fz := hin.fz (k + 1)
      clear hin
      go_wp2_with fail
      refine (below_any b (gsAt a k) wr H.out.gen (gsAt_ok a k)).mono ?_
      rintro e w2 ⟨rfl, g2, r2⟩
      have hne : b < w1.heap.size := H.out.hb
      have rk2 := r2.cell rk (by simp; omega)
      have fz2 : w2.frozen? ⟨w1.heap.size + 1, k + 1, none⟩ = false :=
        (World.frozen?_of_block (w := wr) (a := ⟨w1.heap.size + 1, k + 1, none⟩) (r2.block (w1.heap.size + 1) (World.block_lt_of_cell? wr _ rk) (by simp; omega))).trans fz
      have HN := toHid (H.out.next r2 g2)
      have hbit : Hid (bit a (k + 1) = (wrap64 ((gsAt a k).val.tmod 2) == 1)) := rfl
      generalize wrap64 ((gsAt a k).val.tmod 2) = x at *
      clear g2 r2 rk fz
      go_wp2_with fail
      go_roundw
      case rel => exact ⟨k + 1, by omega, by go_num, by rw [← hbit.out]; exact HN.out⟩
      case measure => simp [intOf]; omega
    · clear hin
      go_wp2_with fail
      go_ret
      have hkn : k = n := by omega
      subst hkn
      exact ⟨w1.heap.size + 1, rfl, by have := H.out.hS; omega, fun j hj => by rw [H.out.row j hj, if_pos hj], H.out.below⟩

set_option maxRecDepth 100000 in
set_option maxHeartbeats 1000000 in
theorem sides_neg (a : Int) (h0 : 0 ≤ a) (h1 : a ≤ 18446744073709551615) (w : World) :
    Calls Yba.prog 5 #[.int .u64 a, .int .i64 (-1)] w fun e w' => ∃ H, e = .returned (.slice (some ⟨H, 0, none⟩) 0 0) ∧ Below w.heap.size w w' := by
  have hmk : ∀ W : World, (Instr.makeSlice 23 (.int .i64 0) (.int .i64 0)).run Yba.prog W = .ok (.slice (some ⟨W.heap.size, 0, none⟩) 0 0) (W.alloc (.cells (fls 0) 4)) := fun W => make_runs 0 (by omega) W
  go_enter Yba.func5, Yba.ntmps5
  go_wp2_with (go_at_call 6; refine (new_any a h0 h1 _).mono ?_; rintro e w1 ⟨b, rfl, hb, hg, hbel⟩; have HB := toHid hbel; have hsz := hbel.size; clear hg hbel)
  clear hmk
  refine wp_loop_rounds 1 ?_
  rw [rounds_succ]
  go_wp2_with fail
  go_ret
  exact ⟨_, rfl, (HB.out.alloc hsz _).alloc (by simp <;> omega) _⟩
end Go.Proofs.Ybulkefdy
