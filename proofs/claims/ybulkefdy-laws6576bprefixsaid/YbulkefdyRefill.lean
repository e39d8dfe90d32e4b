/-
  The walks of the generator's methods: Next (12), Refill (13), Uint64 (10), and of the stream's Below (7).
-/
import Derived.Test.YbulkefdyGen
import Derived.WalkKit
import Derived.Deep.QuietTactic
import Derived.BigQuiet
import Derived.Deep.RegionWith
import Derived.LoopN
namespace Go.Proofs.Ybulkefdy
open Go.RowKit

set_option maxHeartbeats 400000 in
theorem next_no (b : Nat) (buf sd : List Int) (i n c : Int) (w : World) (g : Gen w b buf sd i n c) (h : n ≤ i) :
    Calls Yba.prog 12 #[.pointer (some ⟨b, 0, none⟩)] w fun e w' => e = .returned (.tuple #[.int .u64 0, .bool false]) ∧ w' = w := by
  have ci := g.ci
  have cn := g.cn
  clear g
  go_enter Yba.func12, Yba.ntmps12
  go_wp2
  go_ret2
  exact ⟨rfl, rfl⟩
theorem and31 : ∀ k : Fin 32, bits .and .u32 (k.val : Int) 31 = (k.val : Int) := by decide +kernel
set_option maxHeartbeats 400000 in
theorem next_yes (b : Nat) (buf sd : List Int) (i : Nat) (n c : Int) (w : World) (g : Gen w b buf sd i n c) (h : (i : Int) < n) (hn : n ≤ 32) :
    Calls Yba.prog 12 #[.pointer (some ⟨b, 0, none⟩)] w fun e w' => e = .returned (.tuple #[.int .u64 (buf.getD i 0), .bool true]) ∧ w' = w.setCell ⟨b, 36, none⟩ (.int .u32 (i + 1)) := by
  have ci := g.ci
  have cn := g.cn
  have f36 := g.fz 36
  have hb := (World.cell?_setCell_other w ⟨b, 36, none⟩ ⟨b, i, none⟩ (.int .u32 (i + 1)) (by simp <;> omega)).trans (g.buf_at (k := i) (by omega))
  have ha : bits .and .u32 (i : Int) 31 = (i : Int) := and31 ⟨i, by omega⟩
  clear g
  go_enter Yba.func12, Yba.ntmps12
  go_wp2
  go_ret2
  exact ⟨rfl, rfl⟩

theorem Gen.drew {w : World} {b : Nat} {buf sd : List Int} {i n c : Int} (g : Gen w b buf sd i n c) : Gen w.drew b buf sd i n c := g.kept rfl
theorem grownBy_drew (w : World) (row : Option Nat) : w.grownBy w.drew row := grownBy_drewN w 1 row
/-- The call of 'block', behind a draw: the world it leaves. -/
theorem block_says {w : World} {b : Nat} {buf sd : List Int} {i n c : Int} (g : Gen w b buf sd i n c) :
    ∃ W, (callFunc 16 #[.pointer (some ⟨b, 32, none⟩), .pointer (some ⟨b, 0, none⟩), .int .u32 c]).run Yba.prog w.drew = .ok (.value (.tuple #[])) W ∧
      Gen W b (blk sd c) sd i n c ∧ w.grownBy W (some b) := by
  have g' : Gen w.drew b buf sd i n c := g.kept rfl
  refine ⟨_, block_runs b sd c w.drew g'.rs g'.ls g'.there, g'.set_buf _ (blk_length _ _), ?_⟩
  exact grownBy_trans (b' := w.drew) (grownBy_drewN w 1 _) (grownBy_setCells b _ 0 w.drew)

set_option maxHeartbeats 400000 in
theorem refill_4 (b : Nat) (buf sd : List Int) (i n c : Int) (w : World) (g : Gen w b buf sd i n c) (h0 : 0 ≤ c) (h1 : c ≤ 7) :
    Calls Yba.prog 13 #[.pointer (some ⟨b, 0, none⟩)] w fun e w' => e = .returned (.tuple #[]) ∧ Gen w' b (blk sd (c + 4)) sd 0 32 (c + 4) ∧ w.grownBy w' (some b) := by
  have e1 : (c + 4 == 16) = false := by simp; omega
  have e2 : (c + 4 == 12) = false := by simp; omega
  obtain ⟨W, hW, gW, rW⟩ := block_says (g.set_c (c + 4))
  have cc := g.cc
  have f38 := g.fz 38
  have ci := gW.ci
  have cn := gW.cn
  have cc' := gW.cc
  have F36 := gW.fz 36
  have F37 := gW.fz 37
  have G : Hid (Gen W b (blk sd (c + 4)) sd i n (c + 4)) := gW
  have R : Hid (w.grownBy W (some b)) := grownBy_trans (grownBy_setCell _ _ _ _) rW
  clear g gW rW
  go_enter Yba.func13, Yba.ntmps13
  go_wp2
  go_region_with fail
  go_wp2
  go_end0
  exact ⟨rfl, (G.out.set_i 0).set_n 32, grownBy_trans (grownBy_trans R.out (grownBy_setCell _ _ _ _)) (grownBy_setCell _ _ _ _)⟩
set_option maxHeartbeats 400000 in
theorem refill_8 (b : Nat) (buf sd : List Int) (i n : Int) (w : World) (g : Gen w b buf sd i n 8) :
    Calls Yba.prog 13 #[.pointer (some ⟨b, 0, none⟩)] w fun e w' => e = .returned (.tuple #[]) ∧ Gen w' b (blk sd 12) sd 0 28 12 ∧ w.grownBy w' (some b) := by
  obtain ⟨W, hW, gW, rW⟩ := block_says (g.set_c 12)
  have cc := g.cc
  have f38 := g.fz 38
  have ci := gW.ci
  have cn := gW.cn
  have cc' := gW.cc
  have F36 := gW.fz 36
  have F37 := gW.fz 37
  have G : Hid (Gen W b (blk sd 12) sd i n 12) := gW
  have R : Hid (w.grownBy W (some b)) := grownBy_trans (grownBy_setCell _ _ _ _) rW
  clear g gW rW
  go_enter Yba.func13, Yba.ntmps13
  go_wp2
  go_region_with fail
  go_wp2
  go_end0
  exact ⟨rfl, ((G.out.set_i 0).set_n 32).set_n 28, grownBy_trans (grownBy_trans (grownBy_trans R.out (grownBy_setCell _ _ _ _)) (grownBy_setCell _ _ _ _)) (grownBy_setCell _ _ _ _)⟩

set_option maxHeartbeats 1000000 in
theorem refill_12 (b : Nat) (buf sd : List Int) (i n : Int) (w : World) (g : Gen w b buf sd i n 12) :
    Calls Yba.prog 13 #[.pointer (some ⟨b, 0, none⟩)] w fun e w' => e = .returned (.tuple #[]) ∧
      Gen w' b (blk [buf.getD 28 0, buf.getD 29 0, buf.getD 30 0, buf.getD 31 0] 0) [buf.getD 28 0, buf.getD 29 0, buf.getD 30 0, buf.getD 31 0] 0 32 0 ∧ w.grownBy w' (some b) := by
  have cc := g.cc
  have f38 := g.fz 38
  have f32 := g.fz 32
  have f33 := g.fz 33
  have f34 := g.fz 34
  have f35 := g.fz 35
  have s0 := g.sd_at (k := 0) (by decide)
  have s1 := g.sd_at (k := 1) (by decide)
  have s2 := g.sd_at (k := 2) (by decide)
  have s3 := g.sd_at (k := 3) (by decide)
  have b0 := g.buf_at (k := 28) (by decide)
  have b1 := g.buf_at (k := 29) (by decide)
  have b2 := g.buf_at (k := 30) (by decide)
  have b3 := g.buf_at (k := 31) (by decide)
  generalize buf.getD 28 0 = x0 at *
  generalize buf.getD 29 0 = x1 at *
  generalize buf.getD 30 0 = x2 at *
  generalize buf.getD 31 0 = x3 at *
  simp only [Nat.reduceAdd] at s0 s1 s2 s3
  have g0 : Gen ((((((w.setCell ⟨b, 38, none⟩ (.int .u32 16)).setCell ⟨b, 32, none⟩ (.int .u64 x0)).setCell ⟨b, 33, none⟩ (.int .u64 x1)).setCell ⟨b, 34, none⟩ (.int .u64 x2)).setCell ⟨b, 35, none⟩ (.int .u64 x3)).setCell ⟨b, 38, none⟩ (.int .u32 0)) b buf [x0, x1, x2, x3] i n 0 :=
    Gen.set_c (Gen.set_sd (g.set_c 16) [x0, x1, x2, x3] rfl) 0
  have g1 : Gen (((((((w.setCell ⟨b, 38, none⟩ (.int .u32 16)).setCell ⟨b, 32, none⟩ (.int .u64 x0)).setCell ⟨b, 33, none⟩ (.int .u64 x1)).setCell ⟨b, 34, none⟩ (.int .u64 x2)).setCell ⟨b, 35, none⟩ (.int .u64 x3)).setCell ⟨b, 38, none⟩ (.int .u32 0)).drew.drew.drew.drew) b buf [x0, x1, x2, x3] i n 0 :=
    g0.drew.drew.drew.drew
  obtain ⟨W, hW, gW, rW⟩ := block_says g1
  have ci := gW.ci
  have cn := gW.cn
  have cc' := gW.cc
  have F36 := gW.fz 36
  have F37 := gW.fz 37
  have G : Hid (Gen W b (blk [x0, x1, x2, x3] 0) [x0, x1, x2, x3] i n 0) := gW
  have R : Hid (w.grownBy W (some b)) := grownBy_trans (grownBy_trans (grownBy_setCell w b 38 (.int .u32 16)) (grownBy_trans (grownBy_setCells b (U64 [x0, x1, x2, x3]) 32 _) (grownBy_trans (grownBy_setCell _ b 38 (.int .u32 0)) (grownBy_trans (grownBy_drew _ _) (grownBy_trans (grownBy_drew _ _) (grownBy_trans (grownBy_drew _ _) (grownBy_drew _ _))))))) rW
  clear g gW rW g1 g0
  go_enter Yba.func13, Yba.ntmps13
  go_wp2
  go_region
  go_wp2
  go_region
  go_wp2
  go_region
  go_wp2
  go_region
  go_wp2
  go_region_with fail
  go_wp2
  go_end0
  exact ⟨rfl, (G.out.set_i 0).set_n 32, grownBy_trans (grownBy_trans R.out (grownBy_setCell _ _ _ _)) (grownBy_setCell _ _ _ _)⟩

/-! ### What a refill makes of the state -/
def reSd (buf sd : List Int) (c : Int) : List Int := if c = 12 then [buf.getD 28 0, buf.getD 29 0, buf.getD 30 0, buf.getD 31 0] else sd
def reC (c : Int) : Int := if c = 12 then 0 else c + 4
def reN (c : Int) : Int := if c = 8 then 28 else 32
/-- The counter's four values. -/
def okC (c : Int) : Prop := c = 0 ∨ c = 4 ∨ c = 8 ∨ c = 12
theorem okC_reC {c : Int} (h : okC c) : okC (reC c) := by
  rcases h with rfl | rfl | rfl | rfl <;> simp [okC, reC]

theorem refill_any (b : Nat) (buf sd : List Int) (i n c : Int) (w : World) (g : Gen w b buf sd i n c) (h : okC c) :
    Calls Yba.prog 13 #[.pointer (some ⟨b, 0, none⟩)] w fun e w' => e = .returned (.tuple #[]) ∧
      Gen w' b (blk (reSd buf sd c) (reC c)) (reSd buf sd c) 0 (reN c) (reC c) ∧ w.grownBy w' (some b) := by
  rcases h with rfl | rfl | rfl | rfl
  · exact refill_4 b buf sd i n 0 w g (by decide) (by decide)
  · exact refill_4 b buf sd i n 4 w g (by decide) (by decide)
  · exact refill_8 b buf sd i n w g
  · exact refill_12 b buf sd i n w g
end Go.Proofs.Ybulkefdy
