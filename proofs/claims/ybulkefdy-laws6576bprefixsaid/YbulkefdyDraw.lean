/-
  The walks of Uint64 (10) and of the stream's Below (7): the next word of the generator's state, and the state behind it, as plain functions.
-/
import Derived.Test.YbulkefdyRefill
namespace Go.Proofs.Ybulkefdy
open Go.RowKit
/-- The generator's state, as plain data. -/
structure GS where
  buf : List Int
  sd : List Int
  i : Nat
  n : Int
  c : Int
def GenS (w : World) (b : Nat) (s : GS) : Prop := Gen w b s.buf s.sd s.i s.n s.c
def GS.ok (s : GS) : Prop := okC s.c ∧ s.n ≤ 32
def GS.re (s : GS) : GS := ⟨blk (reSd s.buf s.sd s.c) (reC s.c), reSd s.buf s.sd s.c, 0, reN s.c, reC s.c⟩
/-- The next word, and the state behind it. -/
def GS.val (s : GS) : Int := if (s.i : Int) < s.n then s.buf.getD s.i 0 else s.re.buf.getD 0 0
def GS.step (s : GS) : GS := if (s.i : Int) < s.n then { s with i := s.i + 1 } else { s.re with i := 1 }
theorem reN_le (c : Int) : reN c ≤ 32 := by unfold reN; split <;> omega
theorem reN_pos (c : Int) : 0 < reN c := by unfold reN; split <;> omega
theorem GS.ok_step {s : GS} (h : s.ok) : s.step.ok := by
  unfold GS.step
  split
  · exact h
  · exact ⟨okC_reC h.1, reN_le _⟩

set_option maxHeartbeats 400000 in
theorem uint64_yes (b : Nat) (s : GS) (w : World) (g : GenS w b s) (hn : s.n ≤ 32) (h : (s.i : Int) < s.n) :
    Calls Yba.prog 10 #[.pointer (some ⟨b, 0, none⟩)] w fun e w' => e = .returned (.int .u64 (s.buf.getD s.i 0)) ∧ Gen w' b s.buf s.sd (s.i + 1 : Nat) s.n s.c ∧ w.grownBy w' (some b) := by
  have G : Hid (GenS w b s) := g
  clear g
  go_enter Yba.func10, Yba.ntmps10
  go_wp2_with fail
  refine wp_loop_rounds 1 ?_
  rw [rounds_succ]
  go_wp2_with fail
  refine (next_yes b s.buf s.sd s.i s.n s.c w G.out h hn).mono ?_
  rintro e w' ⟨rfl, rfl⟩
  go_wp2_with fail
  go_ret
  exact ⟨rfl, G.out.set_i _, grownBy_setCell _ _ _ _⟩

set_option maxHeartbeats 400000 in
theorem uint64_no (b : Nat) (s : GS) (w : World) (g : GenS w b s) (hc : okC s.c) (h : s.n ≤ (s.i : Int)) :
    Calls Yba.prog 10 #[.pointer (some ⟨b, 0, none⟩)] w fun e w' => e = .returned (.int .u64 (s.re.buf.getD 0 0)) ∧ Gen w' b s.re.buf s.re.sd (1 : Nat) s.re.n s.re.c ∧ w.grownBy w' (some b) := by
  have G : Hid (GenS w b s) := g
  clear g
  have hp := reN_pos s.c
  have hl := reN_le s.c
  go_enter Yba.func10, Yba.ntmps10
  go_wp2_with fail
  refine wp_loop_rounds 2 ?_
  rw [rounds_succ]
  go_wp2_with fail
  refine (next_no b s.buf s.sd s.i s.n s.c w G.out h).mono ?_
  rintro e w' ⟨rfl, rfl⟩
  go_wp2_with fail
  refine (refill_any b s.buf s.sd s.i s.n s.c _ G.out hc).mono ?_
  rintro e w1 ⟨rfl, g1, r1⟩
  have G1 : Hid (Gen w1 b (blk (reSd s.buf s.sd s.c) (reC s.c)) (reSd s.buf s.sd s.c) 0 (reN s.c) (reC s.c)) := g1
  have R1 : Hid (w'.grownBy w1 (some b)) := r1
  clear g1 r1
  go_wp2_with fail
  rw [rounds_succ]
  go_wp2_with fail
  refine (next_yes b (blk (reSd s.buf s.sd s.c) (reC s.c)) (reSd s.buf s.sd s.c) 0 (reN s.c) (reC s.c) w1 G1.out hp hl).mono ?_
  rintro e w2 ⟨rfl, rfl⟩
  go_wp2_with fail
  go_ret
  exact ⟨rfl, G1.out.set_i _, grownBy_trans R1.out (grownBy_setCell _ _ _ _)⟩

theorem uint64_any (b : Nat) (s : GS) (w : World) (g : GenS w b s) (ok : s.ok) :
    Calls Yba.prog 10 #[.pointer (some ⟨b, 0, none⟩)] w fun e w' => e = .returned (.int .u64 s.val) ∧ GenS w' b s.step ∧ w.grownBy w' (some b) := by
  by_cases h : (s.i : Int) < s.n
  · have e1 : s.val = s.buf.getD s.i 0 := if_pos h
    have e2 : s.step = { s with i := s.i + 1 } := if_pos h
    rw [e1, e2]
    exact uint64_yes b s w g ok.2 h
  · have e1 : s.val = s.re.buf.getD 0 0 := if_neg h
    have e2 : s.step = { s.re with i := 1 } := if_neg h
    rw [e1, e2]
    exact uint64_no b s w g ok.1 (by omega)

set_option maxHeartbeats 400000 in
theorem below_any (b : Nat) (s : GS) (w : World) (g : GenS w b s) (ok : s.ok) :
    Calls Yba.prog 7 #[.agg #[.pointer (some ⟨b, 0, none⟩)], .int .i64 2] w fun e w' => e = .returned (.int .i64 (wrap64 (s.val.tmod 2))) ∧ GenS w' b s.step ∧ w.grownBy w' (some b) := by
  have G : Hid (GenS (w.alloc (.cells #[.pointer (some ⟨b, 0, none⟩)] 29)) b s) := Gen.grown g (World.grownBy_alloc w _ none) (by simp)
  clear g
  go_enter Yba.func7, Yba.ntmps7
  go_wp2_with fail
  refine (uint64_any b s _ G.out ok).mono ?_
  rintro e w1 ⟨rfl, g1, r1⟩
  have G1 : Hid (GenS w1 b s.step) := g1
  have R1 : Hid ((w.alloc (.cells #[.pointer (some ⟨b, 0, none⟩)] 29)).grownBy w1 (some b)) := r1
  clear g1 r1
  go_wp2_with fail
  go_ret
  exact ⟨rfl, G1.out, grownBy_trans (World.grownBy_alloc w _ _) R1.out⟩
end Go.Proofs.Ybulkefdy
