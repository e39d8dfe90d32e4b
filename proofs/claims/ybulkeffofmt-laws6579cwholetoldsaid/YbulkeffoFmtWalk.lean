/-
  The walks of HeaderError.Problem (4) and of the law (3), for every text that fmt may give: only that fmt.Sprintf hands back some string is used.
-/
import Derived.Test.YbulkeffoFmtCards
import Derived.Stop.CallBack
import Derived.Stop.IfaceNil
import GoSem.ClaimData
import Derived.WalkKit
import Derived.WalkSpells
namespace Go.Proofs.YbulkeffoFmt
open Go.RowKit Go.Extern.Stop Go.Stop Go.Extern

theorem call5 (args : Array Value) (w : World) : (callFunc 5 args).run Ybaf.prog w = ((FmtStop.sprintf #[9, 46] #[9] args).run Ybaf.prog w).andThen fun v w' => .ok (.value v) w' :=
  run_callFunc_extern Ybaf.func5 (by kernel_rfl) (by kernel_rfl) (by kernel_rfl) (by kernel_rfl) args w
theorem guard (name : String) (w : World) : (FmtStop.guard name).run Ybaf.prog w = .ok () w := by kernel_rfl
theorem fmt2 : FmtStop.printed? ⟨#[118, 101, 114, 115, 105, 111, 110, 32, 37, 100, 32, 105, 115, 32, 110, 101, 119, 101, 114, 32, 116, 104, 97, 110, 32, 116, 104, 105, 115, 32, 108, 101, 100, 103, 101, 114, 108, 105, 110, 101, 32, 114, 101, 97, 100, 115]⟩ 1 = some [(0, 100, false)] := by kernel_rfl
theorem fmt2r (w : World) : (FmtDoors.printed ⟨#[118, 101, 114, 115, 105, 111, 110, 32, 37, 100, 32, 105, 115, 32, 110, 101, 119, 101, 114, 32, 116, 104, 97, 110, 32, 116, 104, 105, 115, 32, 108, 101, 100, 103, 101, 114, 108, 105, 110, 101, 32, 114, 101, 97, 100, 115]⟩ 1).run Ybaf.prog w = .ok [(0, 100, false)] w := by kernel_rfl
def shape3 : List UInt8 := [5, 3, 0, 0, 0, 0, 0, 0, 0, 105, 110, 116]
theorem op3_100 (name : String) (x : Int) (w : World) : (FmtStop.operand name false 100 false (.iface 3 (.int .i64 x))).run Ybaf.prog w = .ok (shape3, Go.Extern.Stop.digits 8 (x % 2 ^ 64).toNat) w := by kernel_rfl

set_option maxHeartbeats 400000 in
theorem problem_zero (b : Nat) (w : World) (c1 : w.cell? ⟨b, 1, none⟩ = some (.int .i64 0)) :
    Calls Ybaf.prog 4 #[.pointer (some ⟨b, 0, none⟩)] w fun e w' => e = .returned (.agg #[.int .i64 1, .string ⟨#[110, 111, 116, 32, 97, 32, 115, 101, 115, 115, 105, 111, 110, 32, 104, 101, 97, 100, 101, 114]⟩, .bool false]) ∧ Below w.heap.size w w' := by
  have hb := World.block_lt_of_cell? w _ c1
  go_enter Ybaf.func4, Ybaf.ntmps4
  go_wp2
  exact bodyPost_ret (v := .agg #[.int .i64 1, .string ⟨#[110, 111, 116, 32, 97, 32, 115, 101, 115, 115, 105, 111, 110, 32, 104, 101, 97, 100, 101, 114]⟩, .bool false]) (by simp [results, Ybaf.results4, go_sem]) rfl ⟨rfl, (Below.refl _ _).alloc (Nat.le_refl _) _⟩
set_option maxHeartbeats 400000 in
theorem problem_some (F : Interp) (b : Nat) (v : Int) (hv : v ≠ 0) (w : World) (c1 : w.cell? ⟨b, 1, none⟩ = some (.int .i64 v)) (hF : F.answers w.tape) :
    Calls Ybaf.prog 4 #[.pointer (some ⟨b, 0, none⟩)] w fun e w' => ∃ s, e = .returned (.agg #[.int .i64 1, .string s, .bool false]) ∧ Below w.heap.size w w' := by
  have hF' := answers_open hF
  have h1 := call5
  have h2 := guard
  have h3 := fmt2
  have h4 := fmt2r
  have h5 := op3_100
  have hz : (v == 0) = false := by simpa using hv
  have hb := World.block_lt_of_cell? w _ c1
  go_enter Ybaf.func4, Ybaf.ntmps4
  go_wp2
  refine bodyPost_ret (v := .agg #[.int .i64 1, .string _, .bool false]) (by simp [results, Ybaf.results4, go_sem]; rfl) rfl ⟨⟨_, rfl⟩, ?_⟩
  exact (((Below.refl _ _).alloc (Nat.le_refl _) _).alloc (by simp) _).drew

set_option maxHeartbeats 400000 in
theorem law_any (F : Interp) (path : ByteArray) (v : Int) (w : World) (hF : F.answers w.tape) :
    Calls Ybaf.prog 3 #[.string path, .int .i64 v] w fun e w' => e = .returned (.bool true) ∧ Below w.heap.size w w' := by
  have c1 : (w.alloc (.cells #[.string path, .int .i64 v] 24)).cell? ⟨w.heap.size, 1, none⟩ = some (.int .i64 v) := by
    unfold World.cell?; rw [(MapKept.heap_alloc w _).1]; rfl
  have c0 : (w.alloc (.cells #[.string path, .int .i64 v] 24)).cell? ⟨w.heap.size, 0, none⟩ = some (.string path) := by
    unfold World.cell?; rw [(MapKept.heap_alloc w _).1]; rfl
  have hs : (w.alloc (.cells #[.string path, .int .i64 v] 24)).heap.size = w.heap.size + 1 := World.size_alloc _ _
  by_cases hv : v = 0
  · subst hv
    go_enter Ybaf.func3, Ybaf.ntmps3
    go_wp2_with fail
    refine (problem_zero w.heap.size _ c1).mono ?_
    rintro e w1 ⟨rfl, bel⟩
    have d1 := (bel.cell (p := ⟨w.heap.size, 1, none⟩) (by rw [hs]; exact Nat.lt_succ_self _)).trans c1
    have d0 := (bel.cell (p := ⟨w.heap.size, 0, none⟩) (by rw [hs]; exact Nat.lt_succ_self _)).trans c0
    have hz : w.heap.size < w1.heap.size := by have := bel.size; rw [hs] at this; omega
    have B : Hid (Below w.heap.size w w1) := ((Below.refl _ w).alloc (Nat.le_refl _) _).trans (bel.mono (by rw [hs]; omega))
    clear c0 c1 bel hs
    have hz' : w.heap.size ≤ w1.heap.size := by omega
    go_wp2_with fail
    go_ret
    exact ⟨rfl, B.out.alloc hz' _⟩
  · have hz0 : (v == 0) = false := by simpa using hv
    go_enter Ybaf.func3, Ybaf.ntmps3
    go_wp2_with fail
    refine (problem_some F w.heap.size v hv _ c1 hF).mono ?_
    rintro e w1 ⟨s, rfl, bel⟩
    have d1 := (bel.cell (p := ⟨w.heap.size, 1, none⟩) (by rw [hs]; exact Nat.lt_succ_self _)).trans c1
    have d0 := (bel.cell (p := ⟨w.heap.size, 0, none⟩) (by rw [hs]; exact Nat.lt_succ_self _)).trans c0
    have hz : w.heap.size < w1.heap.size := by have := bel.size; rw [hs] at this; omega
    have B : Hid (Below w.heap.size w w1) := ((Below.refl _ w).alloc (Nat.le_refl _) _).trans (bel.mono (by rw [hs]; omega))
    clear c0 c1 bel hs
    have hz' : w.heap.size ≤ w1.heap.size := by omega
    go_wp2_with fail
    go_ret
    exact ⟨rfl, B.out.alloc hz' _⟩
end Go.Proofs.YbulkeffoFmt
