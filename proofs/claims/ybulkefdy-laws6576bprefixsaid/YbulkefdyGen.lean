/-
  The generator's struct in memory: what its cells hold, and how that stands across stores and new blocks.
-/
import Derived.Test.YbulkefdyBlock
import Derived.Below
import Derived.Deep.Quiet
namespace Go.Proofs.Ybulkefdy
open Go.RowKit

/-- The generator lies in block b: 32 words of buffer, 4 words of seed, the index i, the count n, the counter c; no cell of these is frozen. -/
structure Gen (w : World) (b : Nat) (buf sd : List Int) (i n c : Int) : Prop where
  lb : buf.length = 32
  ls : sd.length = 4
  rb : w.rangeAt b 0 (U64 buf)
  rs : w.rangeAt b 32 (U64 sd)
  ci : w.cell? ⟨b, 36, none⟩ = some (.int .u32 i)
  cn : w.cell? ⟨b, 37, none⟩ = some (.int .u32 n)
  cc : w.cell? ⟨b, 38, none⟩ = some (.int .u32 c)
  fz : ∀ j, w.frozen? ⟨b, j, none⟩ = false

variable {w w' : World} {b : Nat} {buf sd : List Int} {i n c : Int}

theorem Gen.lt (g : Gen w b buf sd i n c) : b < w.heap.size := World.block_lt_of_cell? w _ g.ci

/-- What does not touch block b leaves the generator. -/
theorem Gen.kept (g : Gen w b buf sd i n c) (h : w'.heap[b]? = w.heap[b]?) : Gen w' b buf sd i n c := by
  have hc : ∀ j, w'.cell? ⟨b, j, none⟩ = w.cell? ⟨b, j, none⟩ := fun j => World.cell?_of_block (a := ⟨b, j, none⟩) h
  have hf : ∀ j, w'.frozen? ⟨b, j, none⟩ = w.frozen? ⟨b, j, none⟩ := fun j => World.frozen?_of_block (a := ⟨b, j, none⟩) h
  exact ⟨g.lb, g.ls, fun j v hv => (hc _).trans (g.rb j v hv), fun j v hv => (hc _).trans (g.rs j v hv), (hc _).trans g.ci, (hc _).trans g.cn, (hc _).trans g.cc, fun j => (hf j).trans (g.fz j)⟩

theorem Gen.grown {row : Option Nat} (g : Gen w b buf sd i n c) (h : w.grownBy w' row) (hr : some b ≠ row) : Gen w' b buf sd i n c :=
  g.kept (h.block b g.lt hr)

theorem Gen.buf_at (g : Gen w b buf sd i n c) {k : Nat} (hk : k < 32) : w.cell? ⟨b, k, none⟩ = some (.int .u64 (buf.getD k 0)) := by
  have := g.rb k (.int .u64 (buf.getD k 0)) (by
    have hl := g.lb
    simp [U64, List.getD_eq_getElem?_getD, List.getElem?_eq_getElem (show k < buf.length by omega)])
  simpa using this
theorem Gen.sd_at (g : Gen w b buf sd i n c) {k : Nat} (hk : k < 4) : w.cell? ⟨b, 32 + k, none⟩ = some (.int .u64 (sd.getD k 0)) :=
  g.rs k (.int .u64 (sd.getD k 0)) (by
    have hl := g.ls
    simp [U64, List.getD_eq_getElem?_getD, List.getElem?_eq_getElem (show k < sd.length by omega)])

/-- Stores into block b alone: 'grownBy' at that block. -/
theorem grownBy_setCell (w : World) (b o : Nat) (v : Value) : w.grownBy (w.setCell ⟨b, o, none⟩ v) (some b) :=
  ⟨rfl, rfl, rfl, by simp [World.setCell], fun k _ hne => Below.heap_setCell _ _ _ _ (fun e => hne (by rw [e]))⟩
theorem grownBy_trans {a b' c' : World} {row : Option Nat} (h : a.grownBy b' row) (k : b'.grownBy c' row) : a.grownBy c' row :=
  ⟨k.os.trans h.os, k.tape.trans h.tape, k.output.trans h.output, Nat.le_trans h.size k.size, fun j hj hne => (k.block j (Nat.lt_of_lt_of_le hj h.size) hne).trans (h.block j hj hne)⟩
theorem grownBy_refl (a : World) (row : Option Nat) : a.grownBy a row := ⟨rfl, rfl, rfl, Nat.le_refl _, fun _ _ _ => rfl⟩
theorem grownBy_drewN (a : World) (m : Nat) (row : Option Nat) : a.grownBy (a.drewN m) row := by
  have : ∀ m, (a.drewN m).os = a.os ∧ (a.drewN m).tape = a.tape ∧ (a.drewN m).output = a.output ∧ (a.drewN m).heap = a.heap := by
    intro m
    simp [World.drewN]
  obtain ⟨h1, h2, h3, h4⟩ := this m
  exact ⟨h1, h2, h3, by rw [h4]; exact Nat.le_refl _, fun _ _ _ => by rw [h4]⟩
theorem grownBy_setCells (b : Nat) : ∀ (vs : List Value) (o : Nat) (w : World), w.grownBy (w.setCells b o vs) (some b)
  | [], _, w => grownBy_refl w _
  | v :: r, o, w => grownBy_trans (grownBy_setCell w b o v) (grownBy_setCells b r (o + 1) _)

theorem Gen.set_i (g : Gen w b buf sd i n c) (i' : Int) : Gen (w.setCell ⟨b, 36, none⟩ (.int .u32 i')) b buf sd i' n c := by
  have hl := g.lb; have hs := g.ls
  refine ⟨g.lb, g.ls, fun j v hv => ?_, fun j v hv => ?_, World.cell?_setCell_same _ _ _ g.ci, (World.cell?_setCell_other _ _ _ _ (by simp)).trans g.cn, (World.cell?_setCell_other _ _ _ _ (by simp)).trans g.cc, fun j => (World.frozen?_setCell _ _ _ _).trans (g.fz j)⟩
  · have hj : j < 32 := by have := (List.getElem?_eq_some_iff.1 hv).1; rw [U64_length] at this; omega
    exact (World.cell?_setCell_other _ _ _ _ (by simp <;> omega)).trans (g.rb j v hv)
  · have hj : j < 4 := by have := (List.getElem?_eq_some_iff.1 hv).1; rw [U64_length] at this; omega
    exact (World.cell?_setCell_other _ _ _ _ (by simp <;> omega)).trans (g.rs j v hv)
theorem Gen.set_n (g : Gen w b buf sd i n c) (n' : Int) : Gen (w.setCell ⟨b, 37, none⟩ (.int .u32 n')) b buf sd i n' c := by
  have hl := g.lb; have hs := g.ls
  refine ⟨g.lb, g.ls, fun j v hv => ?_, fun j v hv => ?_, (World.cell?_setCell_other _ _ _ _ (by simp)).trans g.ci, World.cell?_setCell_same _ _ _ g.cn, (World.cell?_setCell_other _ _ _ _ (by simp)).trans g.cc, fun j => (World.frozen?_setCell _ _ _ _).trans (g.fz j)⟩
  · have hj : j < 32 := by have := (List.getElem?_eq_some_iff.1 hv).1; rw [U64_length] at this; omega
    exact (World.cell?_setCell_other _ _ _ _ (by simp <;> omega)).trans (g.rb j v hv)
  · have hj : j < 4 := by have := (List.getElem?_eq_some_iff.1 hv).1; rw [U64_length] at this; omega
    exact (World.cell?_setCell_other _ _ _ _ (by simp <;> omega)).trans (g.rs j v hv)
theorem Gen.set_c (g : Gen w b buf sd i n c) (c' : Int) : Gen (w.setCell ⟨b, 38, none⟩ (.int .u32 c')) b buf sd i n c' := by
  have hl := g.lb; have hs := g.ls
  refine ⟨g.lb, g.ls, fun j v hv => ?_, fun j v hv => ?_, (World.cell?_setCell_other _ _ _ _ (by simp)).trans g.ci, (World.cell?_setCell_other _ _ _ _ (by simp)).trans g.cn, World.cell?_setCell_same _ _ _ g.cc, fun j => (World.frozen?_setCell _ _ _ _).trans (g.fz j)⟩
  · have hj : j < 32 := by have := (List.getElem?_eq_some_iff.1 hv).1; rw [U64_length] at this; omega
    exact (World.cell?_setCell_other _ _ _ _ (by simp <;> omega)).trans (g.rb j v hv)
  · have hj : j < 4 := by have := (List.getElem?_eq_some_iff.1 hv).1; rw [U64_length] at this; omega
    exact (World.cell?_setCell_other _ _ _ _ (by simp <;> omega)).trans (g.rs j v hv)

theorem Gen.there (g : Gen w b buf sd i n c) : w.there b 0 32 := fun j hj => ⟨by
    have := g.buf_at hj
    simp [this], by simpa using g.fz j⟩
theorem Gen.there_sd (g : Gen w b buf sd i n c) : w.there b 32 4 := fun j hj => ⟨by
    have := g.sd_at hj
    simp [this], g.fz _⟩
/-- A new buffer. -/
theorem Gen.set_buf (g : Gen w b buf sd i n c) (buf' : List Int) (hl : buf'.length = 32) : Gen (w.setCells b 0 (U64 buf')) b buf' sd i n c := by
  have hs := g.ls
  have out : ∀ k, 32 ≤ k → (w.setCells b 0 (U64 buf')).cell? ⟨b, k, none⟩ = w.cell? ⟨b, k, none⟩ := fun k hk =>
    World.cell?_setCells_out b _ 0 w ⟨b, k, none⟩ (fun _ _ => Or.inr (by rw [U64_length, hl]; show 0 + 32 ≤ k; omega))
  refine ⟨hl, g.ls, World.rangeAt_setCells_same w b 0 _ (by rw [U64_length, hl]; exact g.there), fun j v hv => (out _ (by omega)).trans (g.rs j v hv), (out _ (by omega)).trans g.ci, (out _ (by omega)).trans g.cn, (out _ (by omega)).trans g.cc, fun j => (World.frozen?_setCells _ _ _ _ _).trans (g.fz j)⟩
/-- A new seed. -/
theorem Gen.set_sd (g : Gen w b buf sd i n c) (sd' : List Int) (hl : sd'.length = 4) : Gen (w.setCells b 32 (U64 sd')) b buf sd' i n c := by
  have hb := g.lb
  have out : ∀ k, k < 32 ∨ 36 ≤ k → (w.setCells b 32 (U64 sd')).cell? ⟨b, k, none⟩ = w.cell? ⟨b, k, none⟩ := fun k hk =>
    World.cell?_setCells_out b _ 32 w ⟨b, k, none⟩ (fun _ _ => by rw [U64_length, hl]; show k < 32 ∨ 32 + 4 ≤ k; omega)
  refine ⟨g.lb, hl, fun j v hv => ?_, World.rangeAt_setCells_same w b 32 _ (by rw [U64_length, hl]; exact g.there_sd), (out _ (by omega)).trans g.ci, (out _ (by omega)).trans g.cn, (out _ (by omega)).trans g.cc, fun j => (World.frozen?_setCells _ _ _ _ _).trans (g.fz j)⟩
  have hj : j < 32 := by have := (List.getElem?_eq_some_iff.1 hv).1; rw [U64_length] at this; omega
  exact (out _ (by omega)).trans (g.rb j v hv)
end Go.Proofs.Ybulkefdy
