/-
  'internal/chacha8rand.block' (function 16, no body in the dump: the model's own entry): what it stores, as a plain function of the four seed words and the counter.
-/
import Derived.Test.YbulkefdyRows
import Derived.WalkKit
import Derived.Laws.Externs
import Derived.Deep.MidRow
namespace Go.Proofs.Ybulkefdy
open Go.RowKit

/-- The 32 words that a call lays into the buffer. -/
def blk (sd : List Int) (c : Int) : List Int :=
  let key : Array Nat := ((sd.map Int.toNat).toArray).flatMap fun x => #[x % Extern.Chacha8Block.m32, x / Extern.Chacha8Block.m32]
  let lanes := (Array.range 4).map fun i => Extern.Chacha8Block.lane key (c.toNat + i)
  let word (j : Nat) : Nat := (lanes.getD (j % 4) #[]).getD (j / 4) 0
  (List.range 32).map fun k => Int.ofNat (word (2 * k) + word (2 * k + 1) * Extern.Chacha8Block.m32)

theorem blk_length (sd : List Int) (c : Int) : (blk sd c).length = 32 := by simp [blk]

def U64 (l : List Int) : List Value := l.map (Value.int .u64)
theorem U64_length (l : List Int) : (U64 l).length = l.length := by simp [U64]
theorem U64_one (l : List Int) : ∀ v ∈ U64 l, v.oneCell' = true := by
  intro v hv
  simp only [U64, List.mem_map] at hv
  obtain ⟨x, _, rfl⟩ := hv
  rfl

theorem run_asInts (w : World) : ∀ (l : List Int),
    Sem.run Yba.prog ((U64 l).mapM fun c => (do pure (← asInt c).toNat : Sem Nat)) w = .ok (l.map Int.toNat) w
  | [] => rfl
  | x :: r => by
    have ih := run_asInts w r
    unfold U64 at ih ⊢
    rw [List.map_cons, List.mapM_cons, Sem.run_bind]
    have : Sem.run Yba.prog (do pure (← asInt (Value.int .u64 x)).toNat : Sem Nat) w = .ok x.toNat w := rfl
    rw [this, Result.andThen_ok, Sem.run_bind, ih]
    rfl

/-- The entry's body, its three arguments named. -/
theorem block_eq (seed buf counter : Value) : Extern.Chacha8Block.block #[seed, buf, counter] = (do
    let s ← (← loadCells (← asAddr seed) 4).mapM fun c => do pure (← asInt c).toNat
    let key := s.flatMap fun x => #[x % Extern.Chacha8Block.m32, x / Extern.Chacha8Block.m32]
    let n := (← asInt counter).toNat
    let lanes := (Array.range 4).map fun i => Extern.Chacha8Block.lane key (n + i)
    let word (j : Nat) : Nat := (lanes.getD (j % 4) #[]).getD (j / 4) 0
    storeCells (← asAddr buf) ((List.range 32).map fun k => .int .u64 (Int.ofNat (word (2 * k) + word (2 * k + 1) * Extern.Chacha8Block.m32)))
    pure (.tuple #[])) := by kernel_rfl

theorem U64_blk (sd : List Int) (c : Int) : U64 (blk sd c) =
    (List.range 32).map fun k => Value.int .u64 (Int.ofNat (
      (((Array.range 4).map fun i => Extern.Chacha8Block.lane (((sd.map Int.toNat).toArray).flatMap fun x => #[x % Extern.Chacha8Block.m32, x / Extern.Chacha8Block.m32]) (c.toNat + i)).getD (2 * k % 4) #[]).getD (2 * k / 4) 0
      + (((Array.range 4).map fun i => Extern.Chacha8Block.lane (((sd.map Int.toNat).toArray).flatMap fun x => #[x % Extern.Chacha8Block.m32, x / Extern.Chacha8Block.m32]) (c.toNat + i)).getD ((2 * k + 1) % 4) #[]).getD ((2 * k + 1) / 4) 0 * Extern.Chacha8Block.m32)) := by
  unfold U64 blk
  rw [List.map_map]
  rfl

theorem block_runs (b : Nat) (sd : List Int) (c : Int) (w : World) (hs : w.rangeAt b 32 (U64 sd)) (hl : sd.length = 4) (ht : w.there b 0 32) :
    (callFunc 16 #[.pointer (some ⟨b, 32, none⟩), .pointer (some ⟨b, 0, none⟩), .int .u32 c]).run Yba.prog w =
      .ok (.value (.tuple #[])) (w.setCells b 0 (U64 (blk sd c))) := by
  rw [run_callFunc_extern (e := Extern.Chacha8Block.block) Yba.func16 (by kernel_rfl) (by kernel_rfl) (by kernel_rfl) (by kernel_rfl)]
  have h1 : (loadCells ⟨b, 32, none⟩ 4).run Yba.prog w = .ok (U64 sd).toArray w := by
    have := run_loadCells_list (P := Yba.prog) w ⟨b, 32, none⟩ (U64 sd) (fun j v hv => by rw [Addr.add_mid]; exact hs j v hv)
    rwa [U64_length, hl] at this
  have h2 := run_storeCells_cells (P := Yba.prog) b 0 (U64 (blk sd c)) 0 w (fun j hj => by
      rw [U64_length, blk_length] at hj; simpa using (ht j hj).1) (fun j hj => by
      rw [U64_length, blk_length] at hj; simpa using (ht j hj).2) (U64_one _)
  have h3 : Sem.run Yba.prog ((U64 sd).toArray.mapM fun c => (do pure (← asInt c).toNat : Sem Nat)) w = .ok (sd.map Int.toNat).toArray w := by
    rw [List.mapM_toArray, Sem.run_map]
    have h4 : Sem.run Yba.prog ((U64 sd).mapM fun c => (do pure (← asInt c).toNat : Sem Nat)) w = .ok (sd.map Int.toNat) w := run_asInts w sd
    rw [h4, Result.andThen_ok]
  rw [U64_blk] at h2 ⊢
  rw [block_eq]
  generalize Extern.Chacha8Block.lane = ln at *
  generalize Extern.Chacha8Block.m32 = mm at *
  have h5 : Sem.run Yba.prog (asInt (.int .u32 c)) w = .ok c w := rfl
  simp only [Sem.run_bind, asAddr, Sem.run_pure, Result.andThen_ok, h1, h3, h5]
  simp only [Nat.add_zero] at h2
  rw [h2]
  rfl
end Go.Proofs.Ybulkefdy
