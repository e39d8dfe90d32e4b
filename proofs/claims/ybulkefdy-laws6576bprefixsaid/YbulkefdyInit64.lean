/-
  The walks of LEUint64 (15) and Init64 (14).
-/
import Derived.Test.YbulkefdyRefill
import Derived.Deep.Draws
namespace Go.Proofs.Ybulkefdy
open Go.RowKit

def U8 (l : List Int) : List Value := l.map (Value.int .u8)
theorem U8_length (l : List Int) : (U8 l).length = l.length := by simp [U8]

/-- The word that eight bytes spell, as Go's text reckons it. -/
def leV (b0 b1 b2 b3 b4 b5 b6 b7 : Int) : Int :=
  bits .or .u64 (bits .or .u64 (bits .or .u64 (bits .or .u64 (bits .or .u64 (bits .or .u64 (bits .or .u64 (IntKind.u64.wrap b0)
    (IntKind.u64.wrap (IntKind.u64.wrap b1 * 256))) (IntKind.u64.wrap (IntKind.u64.wrap b2 * 65536))) (IntKind.u64.wrap (IntKind.u64.wrap b3 * 16777216)))
    (IntKind.u64.wrap (IntKind.u64.wrap b4 * 4294967296))) (IntKind.u64.wrap (IntKind.u64.wrap b5 * 1099511627776))) (IntKind.u64.wrap (IntKind.u64.wrap b6 * 281474976710656)))
    (IntKind.u64.wrap (IntKind.u64.wrap b7 * 72057594037927936))

set_option maxRecDepth 100000 in
set_option maxHeartbeats 1000000 in
theorem le_any (g o n cap : Nat) (b0 b1 b2 b3 b4 b5 b6 b7 : Int) (w : World) (hn : 8 ≤ n)
    (c0 : w.cell? ⟨g, o, none⟩ = some (.int .u8 b0)) (c1 : w.cell? ⟨g, o + 1, none⟩ = some (.int .u8 b1)) (c2 : w.cell? ⟨g, o + 2, none⟩ = some (.int .u8 b2)) (c3 : w.cell? ⟨g, o + 3, none⟩ = some (.int .u8 b3)) (c4 : w.cell? ⟨g, o + 4, none⟩ = some (.int .u8 b4)) (c5 : w.cell? ⟨g, o + 5, none⟩ = some (.int .u8 b5)) (c6 : w.cell? ⟨g, o + 6, none⟩ = some (.int .u8 b6)) (c7 : w.cell? ⟨g, o + 7, none⟩ = some (.int .u8 b7)) :
    Calls Yba.prog 15 #[.slice (some ⟨g, o, none⟩) n cap] w fun e w' => e = .returned (.int .u64 (leV b0 b1 b2 b3 b4 b5 b6 b7)) ∧ ∃ nq, w' = w.drewN nq := by
  have q0 : 0 < n := by omega
  have q1 : (1 : Int) < (n : Int) := by omega
  have q2 : (2 : Int) < (n : Int) := by omega
  have q3 : (3 : Int) < (n : Int) := by omega
  have q4 : (4 : Int) < (n : Int) := by omega
  have q5 : (5 : Int) < (n : Int) := by omega
  have q6 : (6 : Int) < (n : Int) := by omega
  have q7 : (7 : Int) < (n : Int) := by omega
  go_enter Yba.func15, Yba.ntmps15
  go_wp2
  go_quiet (fail)
  go_wp2
  go_ret
  exact ⟨rfl, _, rfl⟩

theorem U8_at {w : World} {g : Nat} {key : List Int} (hr : w.rangeAt g 0 (U8 key)) {k : Nat} (hk : k < key.length) : w.cell? ⟨g, k, none⟩ = some (.int .u8 (key.getD k 0)) := by
  have := hr k (.int .u8 (key.getD k 0)) (by simp [U8, List.getD_eq_getElem?_getD, List.getElem?_eq_getElem hk])
  simpa using this
/-- The word that the key's bytes from o on spell. -/
def leW (key : List Int) (o : Nat) : Int := leV (key.getD o 0) (key.getD (o + 1) 0) (key.getD (o + 2) 0) (key.getD (o + 3) 0) (key.getD (o + 4) 0) (key.getD (o + 5) 0) (key.getD (o + 6) 0) (key.getD (o + 7) 0)
theorem le_key (g : Nat) (key : List Int) (o n cap : Nat) (w : World) (hr : w.rangeAt g 0 (U8 key)) (hl : o + 8 ≤ key.length) (hn : 8 ≤ n) :
    Calls Yba.prog 15 #[.slice (some ⟨g, o, none⟩) n cap] w fun e w' => e = .returned (.int .u64 (leW key o)) ∧ ∃ nq, w' = w.drewN nq :=
  le_any g o n cap _ _ _ _ _ _ _ _ w hn (U8_at hr (by omega)) (U8_at hr (by omega)) (U8_at hr (by omega)) (U8_at hr (by omega)) (U8_at hr (by omega)) (U8_at hr (by omega)) (U8_at hr (by omega)) (U8_at hr (by omega))

theorem block_says_at {w : World} {b : Nat} {buf sd : List Int} {i n c : Int} (k : Int) (g : Gen w b buf sd i n c) :
    ∃ W, (callFunc 16 #[.pointer (some ⟨b, 32, none⟩), .pointer (some ⟨b, 0, none⟩), .int .u32 k]).run Yba.prog w.drew = .ok (.value (.tuple #[])) W ∧
      Gen W b (blk sd k) sd i n c ∧ w.grownBy W (some b) := by
  have g' : Gen w.drew b buf sd i n c := g.kept rfl
  refine ⟨_, block_runs b sd k w.drew g'.rs g'.ls g'.there, g'.set_buf _ (blk_length _ _), ?_⟩
  exact grownBy_trans (b' := w.drew) (grownBy_drewN w 1 _) (grownBy_setCells b _ 0 w.drew)

set_option maxHeartbeats 1000000 in
theorem init64_any (b : Nat) (buf sd : List Int) (i n c : Int) (x0 x1 x2 x3 : Int) (w : World) (g : Gen w b buf sd i n c) :
    Calls Yba.prog 14 #[.pointer (some ⟨b, 0, none⟩), .agg #[.int .u64 x0, .int .u64 x1, .int .u64 x2, .int .u64 x3]] w fun e w' => e = .returned (.tuple #[]) ∧
      Gen w' b (blk [x0, x1, x2, x3] 0) [x0, x1, x2, x3] 0 32 0 ∧ w.grownBy w' (some b) := by
  have hne : b < w.heap.size := g.lt
  have f32 := g.fz 32
  have f33 := g.fz 33
  have f34 := g.fz 34
  have f35 := g.fz 35
  have s0 := g.sd_at (k := 0) (by decide)
  have s1 := g.sd_at (k := 1) (by decide)
  have s2 := g.sd_at (k := 2) (by decide)
  have s3 := g.sd_at (k := 3) (by decide)
  simp only [Nat.reduceAdd] at s0 s1 s2 s3
  have g0 : Gen ((((w.setCell ⟨b, 32, none⟩ (.int .u64 x0)).setCell ⟨b, 33, none⟩ (.int .u64 x1)).setCell ⟨b, 34, none⟩ (.int .u64 x2)).setCell ⟨b, 35, none⟩ (.int .u64 x3)) b buf [x0, x1, x2, x3] i n c :=
    Gen.set_sd g [x0, x1, x2, x3] rfl
  have r0 : w.grownBy ((((w.setCell ⟨b, 32, none⟩ (.int .u64 x0)).setCell ⟨b, 33, none⟩ (.int .u64 x1)).setCell ⟨b, 34, none⟩ (.int .u64 x2)).setCell ⟨b, 35, none⟩ (.int .u64 x3)) (some b) :=
    grownBy_setCells b (U64 [x0, x1, x2, x3]) 32 w
  have g1 := g0.grown (World.grownBy_alloc _ (.cells #[.int .u64 x0, .int .u64 x1, .int .u64 x2, .int .u64 x3] 43) none) (by simp)
  obtain ⟨W, hW, gW, rW⟩ := block_says_at 0 g1
  have ci := gW.ci
  have cn := gW.cn
  have cc' := gW.cc
  have F36 := gW.fz 36
  have F37 := gW.fz 37
  have F38 := gW.fz 38
  have G : Hid (Gen W b (blk [x0, x1, x2, x3] 0) [x0, x1, x2, x3] i n c) := gW
  have R : Hid (w.grownBy W (some b)) := grownBy_trans r0 (grownBy_trans (World.grownBy_alloc _ _ _) rW)
  clear g g0 g1 gW rW r0
  go_enter Yba.func14, Yba.ntmps14
  go_wp2
  go_region_with fail
  go_wp2
  go_end0
  exact ⟨rfl, ((G.out.set_c 0).set_i 0).set_n 32, grownBy_trans (grownBy_trans (grownBy_trans R.out (grownBy_setCell _ _ _ _)) (grownBy_setCell _ _ _ _)) (grownBy_setCell _ _ _ _)⟩
end Go.Proofs.Ybulkefdy
