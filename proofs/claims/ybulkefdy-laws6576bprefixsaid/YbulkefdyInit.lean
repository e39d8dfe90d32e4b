/-
  The walk of Init (11): the key's four words, then Init64.
-/
import Derived.Test.YbulkefdyInit64
namespace Go.Proofs.Ybulkefdy
open Go.RowKit
theorem al33 : Yba.prog.arrayLen 33 = 32 := by kernel_rfl
theorem rangeAt_new (w : World) (cs : List Value) (t : TypeId) : (w.alloc (.cells cs.toArray t)).rangeAt w.heap.size 0 cs := fun j v hv => by
  rw [cell_of_row (w.alloc (.cells cs.toArray t)) w.heap.size (0 + j) cs.toArray t (0, 0) (MapKept.heap_alloc w _).1]
  simpa using hv
set_option maxHeartbeats 1000000 in
theorem init_any (b : Nat) (buf sd : List Int) (i n c : Int) (key : List Int) (hk : key.length = 32) (w : World) (g : Gen w b buf sd i n c) :
    Calls Yba.prog 11 #[.pointer (some ⟨b, 0, none⟩), .agg (U8 key).toArray] w fun e w' => e = .returned (.tuple #[]) ∧
      Gen w' b (blk [leW key 0, leW key 8, leW key 16, leW key 24] 0) [leW key 0, leW key 8, leW key 16, leW key 24] 0 32 0 ∧ w.grownBy w' (some b) := by
  have hal := al33
  have hr : Hid ((w.alloc (.cells (U8 key).toArray 33)).rangeAt w.heap.size 0 (U8 key)) := rangeAt_new w (U8 key) 33
  have G : Hid (Gen (w.alloc (.cells (U8 key).toArray 33)) b buf sd i n c) := g.grown (World.grownBy_alloc w _ none) (by simp)
  have HK : Hid (key.length = 32) := hk
  clear g hk
  go_enter Yba.func11, Yba.ntmps11
  go_wp2
  go_region_with (first
    | (go_at_call 15; refine (le_key w.heap.size key _ _ _ _ (by exact hr.out) (by have := HK.out; omega) (by decide)).mono ?_; rintro e w' ⟨rfl, nq, rfl⟩)
    | (go_at_call 14; refine (init64_any b buf sd i n c _ _ _ _ _ (by exact Gen.kept G.out rfl)).mono ?_; rintro e w' ⟨rfl, hg, hr2⟩))
  go_end0
  exact ⟨rfl, hg, grownBy_trans (World.grownBy_alloc w _ _) (grownBy_trans (grownBy_drewN _ _ _) hr2)⟩
end Go.Proofs.Ybulkefdy
