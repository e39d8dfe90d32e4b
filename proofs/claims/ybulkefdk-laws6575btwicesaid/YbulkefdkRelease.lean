/-
  The walk of '(*Store).release' (function 4) over the dump: the lock by the library's contracts; what is left of the struct's block, and that nothing else turns.
-/
import Derived.Test.YbulkefdkRows
import Derived.Test.YbulkefdkLocks
import Derived.Conc.RwLoneW
import Derived.WalkKit
namespace Go.Proofs.Ybulkefdk
open Go.RowKit
open Go.RwLone

/-- The struct in block b: its lock wholly free, its 'reserved' r. -/
structure St (w : World) (b : Nat) (r : Int) : Prop where
  c0 : w.cell? ⟨b, 26, none⟩ = some (.int .i32 0)
  c2 : w.cell? ⟨b, 28, none⟩ = some (.int .u32 0)
  c3 : w.cell? ⟨b, 29, none⟩ = some (.int .u32 0)
  c4 : w.cell? ⟨b, 30, none⟩ = some (.int .i32 0)
  c6 : w.cell? ⟨b, 45, none⟩ = some (.int .i64 r)
  z0 : w.frozen? ⟨b, 26, none⟩ = false
  z4 : w.frozen? ⟨b, 30, none⟩ = false
  z6 : w.frozen? ⟨b, 45, none⟩ = false

/-- Only cells of block b were written. -/
structure Wrote (b : Nat) (w w' : World) : Prop where
  grown : ∀ W : World, W.heap.size ≤ b → Grown W w → Grown W w'
  cell : ∀ a : Addr, a.block ≠ b → w'.cell? a = w.cell? a
  frozen : ∀ a : Addr, w'.frozen? a = w.frozen? a
  size : w'.heap.size = w.heap.size

theorem Wrote.refl (b : Nat) (w : World) : Wrote b w w := ⟨fun _ _ h => h, fun _ _ => rfl, fun _ => rfl, rfl⟩
theorem Wrote.set {b : Nat} {w w' : World} (h : Wrote b w w') (o : Nat) (v : Value) : Wrote b w (w'.setCell ⟨b, o, none⟩ v) :=
  ⟨fun W hW hg => (h.grown W hW hg).setCell (a := ⟨b, o, none⟩) hW v,
   fun a ha => (World.cell?_setCell_other _ ⟨b, o, none⟩ a v (by rintro rfl; exact ha rfl)).trans (h.cell a ha),
   fun a => (World.frozen?_setCell _ _ _ _).trans (h.frozen a),
   by simpa [World.setCell] using h.size⟩

set_option maxHeartbeats 1600000 in
theorem release_any (b : Nat) (r n : Int) (w : World) (st : St w b r) :
    Calls Yba.prog 4 #[.pointer (some ⟨b, 0, none⟩), .int .i64 n] w fun e w' => e = .returned (.tuple #[]) ∧
      w' = ((((w.setCell ⟨b, 26, none⟩ (.int .i32 1)).setCell ⟨b, 30, none⟩ (.int .i32 (-1073741824))).setCell ⟨b, 45, none⟩ (.int .i64 (wrap64 (r - n)))).setCell ⟨b, 30, none⟩ (.int .i32 0)).setCell ⟨b, 26, none⟩ (.int .i32 0) := by
  obtain ⟨c0, c2, c3, c4, c6, z0, z4, z6⟩ := st
  go_enter_defers Yba.func4, Yba.ntmps4
  go_wp2_with (go_at_call 5; refine (wlock_free Yba.rwWLib b 26 (.int .u32 0) (.int .u32 0) _ c0 c2 c3 c4 z0 z4).mono ?_; rintro e w' ⟨rfl, rfl⟩)
  -- the door
  refine leaves_cons (f := 6) (args := #[.pointer (some ⟨b, 26, none⟩)]) (by simp) (by simp [go_sem]) ?_
  refine (wunlock_deferred Yba.rwWLib b 26 (.int .u32 0) (.int .u32 0) .returning _ ?_ ?_ ?_ ?_ ?_ ?_).mono ?_
  · exact (World.cell?_setCell_other _ ⟨b, 45, none⟩ ⟨b, 26, none⟩ _ (by simp)).trans ((World.cell?_setCell_other _ ⟨b, 30, none⟩ ⟨b, 26, none⟩ _ (by simp)).trans (World.cell?_setCell_same w ⟨b, 26, none⟩ (.int .i32 1) c0))
  · exact (World.cell?_setCell_other _ ⟨b, 45, none⟩ ⟨b, 28, none⟩ _ (by simp)).trans ((World.cell?_setCell_other _ ⟨b, 30, none⟩ ⟨b, 28, none⟩ _ (by simp)).trans ((World.cell?_setCell_other w ⟨b, 26, none⟩ ⟨b, 28, none⟩ _ (by simp)).trans c2))
  · exact (World.cell?_setCell_other _ ⟨b, 45, none⟩ ⟨b, 29, none⟩ _ (by simp)).trans ((World.cell?_setCell_other _ ⟨b, 30, none⟩ ⟨b, 29, none⟩ _ (by simp)).trans ((World.cell?_setCell_other w ⟨b, 26, none⟩ ⟨b, 29, none⟩ _ (by simp)).trans c3))
  · exact (World.cell?_setCell_other _ ⟨b, 45, none⟩ ⟨b, 30, none⟩ _ (by simp)).trans (World.cell?_setCell_same _ ⟨b, 30, none⟩ _ ((World.cell?_setCell_other w ⟨b, 26, none⟩ ⟨b, 30, none⟩ _ (by simp)).trans c4))
  · simp [z0]
  · simp [z4]
  rintro e u' w'' ⟨rfl, rfl, rfl⟩
  exact ⟨_, results_none rfl _ _ _, rfl, rfl⟩

theorem release_st {b : Nat} {r n : Int} {w w' : World} (st : St w b r)
    (hw : w' = ((((w.setCell ⟨b, 26, none⟩ (.int .i32 1)).setCell ⟨b, 30, none⟩ (.int .i32 (-1073741824))).setCell ⟨b, 45, none⟩ (.int .i64 (wrap64 (r - n)))).setCell ⟨b, 30, none⟩ (.int .i32 0)).setCell ⟨b, 26, none⟩ (.int .i32 0)) :
    St w' b (wrap64 (r - n)) ∧ Wrote b w w' := by
  obtain ⟨c0, c2, c3, c4, c6, z0, z4, z6⟩ := st
  subst hw
  refine ⟨⟨?_, ?_, ?_, ?_, ?_, ?_, ?_, ?_⟩, (((((Wrote.refl b w).set _ _).set _ _).set _ _).set _ _).set _ _⟩
  · refine World.cell?_setCell_same (u := .int .i32 1) _ _ _ ?_
    exact (World.cell?_setCell_other _ ⟨b, 30, none⟩ ⟨b, 26, none⟩ _ (by simp)).trans ((World.cell?_setCell_other _ ⟨b, 45, none⟩ ⟨b, 26, none⟩ _ (by simp)).trans ((World.cell?_setCell_other _ ⟨b, 30, none⟩ ⟨b, 26, none⟩ _ (by simp)).trans (World.cell?_setCell_same w ⟨b, 26, none⟩ (.int .i32 1) c0)))
  · exact (World.cell?_setCell_other _ ⟨b, 26, none⟩ ⟨b, 28, none⟩ _ (by simp)).trans ((World.cell?_setCell_other _ ⟨b, 30, none⟩ ⟨b, 28, none⟩ _ (by simp)).trans ((World.cell?_setCell_other _ ⟨b, 45, none⟩ ⟨b, 28, none⟩ _ (by simp)).trans ((World.cell?_setCell_other _ ⟨b, 30, none⟩ ⟨b, 28, none⟩ _ (by simp)).trans ((World.cell?_setCell_other w ⟨b, 26, none⟩ ⟨b, 28, none⟩ _ (by simp)).trans c2))))
  · exact (World.cell?_setCell_other _ ⟨b, 26, none⟩ ⟨b, 29, none⟩ _ (by simp)).trans ((World.cell?_setCell_other _ ⟨b, 30, none⟩ ⟨b, 29, none⟩ _ (by simp)).trans ((World.cell?_setCell_other _ ⟨b, 45, none⟩ ⟨b, 29, none⟩ _ (by simp)).trans ((World.cell?_setCell_other _ ⟨b, 30, none⟩ ⟨b, 29, none⟩ _ (by simp)).trans ((World.cell?_setCell_other w ⟨b, 26, none⟩ ⟨b, 29, none⟩ _ (by simp)).trans c3))))
  · refine (World.cell?_setCell_other _ ⟨b, 26, none⟩ ⟨b, 30, none⟩ _ (by simp)).trans ?_
    refine World.cell?_setCell_same (u := .int .i32 (-1073741824)) _ _ _ ?_
    refine (World.cell?_setCell_other _ ⟨b, 45, none⟩ ⟨b, 30, none⟩ _ (by simp)).trans ?_
    refine World.cell?_setCell_same (u := .int .i32 0) _ _ _ ?_
    exact (World.cell?_setCell_other w ⟨b, 26, none⟩ ⟨b, 30, none⟩ _ (by simp)).trans c4
  · refine (World.cell?_setCell_other _ ⟨b, 26, none⟩ ⟨b, 45, none⟩ _ (by simp)).trans ?_
    refine (World.cell?_setCell_other _ ⟨b, 30, none⟩ ⟨b, 45, none⟩ _ (by simp)).trans ?_
    refine World.cell?_setCell_same (u := .int .i64 r) _ _ _ ?_
    refine (World.cell?_setCell_other _ ⟨b, 30, none⟩ ⟨b, 45, none⟩ _ (by simp)).trans ?_
    exact (World.cell?_setCell_other w ⟨b, 26, none⟩ ⟨b, 45, none⟩ _ (by simp)).trans c6
  · simp [z0]
  · simp [z4]
  · simp [z6]

/-- The contract that the law uses. -/
theorem release_says (b : Nat) (r n : Int) (w : World) (st : St w b r) :
    Calls Yba.prog 4 #[.pointer (some ⟨b, 0, none⟩), .int .i64 n] w fun e w' => e = .returned (.tuple #[]) ∧ St w' b (wrap64 (r - n)) ∧ Wrote b w w' :=
  (release_any b r n w st).mono fun _ _ h => ⟨h.1, release_st st h.2⟩
end Go.Proofs.Ybulkefdk
