/-
  The walk of stream.New (6) at the purpose 4: the generator that the seed a keys.
-/
import Derived.Test.YbulkefdyPut
import Derived.Test.YbulkefdyDraw
import Derived.Handy
namespace Go.Proofs.Ybulkefdy
open Go.RowKit

def Z (n : Nat) : List Int := List.replicate n 0
theorem Z_append (m n : Nat) : Z (m + n) = Z m ++ Z n := by simp [Z]
theorem U8_append (x y : List Int) : U8 (x ++ y) = U8 x ++ U8 y := by simp [U8]
/-- The key behind k rounds. -/
def keyAt (a : Int) : Nat → List Int
  | 0 => Z 32
  | 1 => leB a ++ Z 24
  | 2 => leB a ++ (leB 0 ++ Z 16)
  | 3 => leB a ++ (leB 0 ++ (leB 0 ++ Z 8))
  | _ => leB a ++ (leB 0 ++ (leB 0 ++ leB 4))
def valAt (a : Int) : Nat → Int
  | 0 => a
  | 3 => 4
  | _ => 0
theorem keyAt_length (a : Int) : ∀ k, (keyAt a k).length = 32
  | 0 | 1 | 2 | 3 | _ + 4 => rfl

structure NIn (w : World) (a : Int) (k : Nat) (wr : World) : Prop where
  key : wr.rangeAt (w.heap.size + 1) 0 (U8 (keyAt a k))
  kz : ∀ j, wr.frozen? ⟨w.heap.size + 1, j, none⟩ = false
  v0 : wr.cell? ⟨w.heap.size + 1 + 1, 0, none⟩ = some (.int .u64 a)
  v1 : wr.cell? ⟨w.heap.size + 1 + 1, 1, none⟩ = some (.int .u64 0)
  v2 : wr.cell? ⟨w.heap.size + 1 + 1, 2, none⟩ = some (.int .u64 0)
  v3 : wr.cell? ⟨w.heap.size + 1 + 1, 3, none⟩ = some (.int .u64 4)
  res : wr.cell? ⟨w.heap.size, 0, none⟩ = some (.pointer none)
  rz : wr.frozen? ⟨w.heap.size, 0, none⟩ = false
  below : Below w.heap.size w wr
  size : w.heap.size + 3 ≤ wr.heap.size

theorem NIn.there {w wr : World} {a : Int} {k : Nat} (h : NIn w a k wr) {o : Nat} (ho : o + 8 ≤ 32) : wr.drew.there (w.heap.size + 1) o 8 := fun j hj => ⟨by
    have := h.key.isSome (o + j) (by rw [U8_length, keyAt_length]; omega)
    simpa using this, by simpa using h.kz (o + j)⟩

theorem NIn.next {w wr : World} {a : Int} {k : Nat} (h : NIn w a k wr) (hk : k < 4) :
    NIn w a (k + 1) ((wr.drew.alloc (.cells #[] 36)).setCells (w.heap.size + 1) (8 * k) (U8 (leB (valAt a k)))) := by
  have hsz := h.size
  have hg : wr.grownBy ((wr.drew.alloc (.cells #[] 36)).setCells (w.heap.size + 1) (8 * k) (U8 (leB (valAt a k)))) (some (w.heap.size + 1)) :=
    grownBy_trans (grownBy_drew wr _) (grownBy_trans (World.grownBy_alloc _ _ _) (grownBy_setCells _ _ _ _))
  have hkey : (wr.drew.alloc (.cells #[] 36)).rangeAt (w.heap.size + 1) 0 (U8 (keyAt a k)) := World.rangeAt_alloc (w := wr.drew) h.key _
  refine ⟨?_, fun j => ?_, hg.cell h.v0 (by simp), hg.cell h.v1 (by simp), hg.cell h.v2 (by simp), hg.cell h.v3 (by simp), hg.cell h.res (by simp), ?_, h.below.grown hg (by omega) (by rintro j ⟨⟩; omega), Nat.le_trans hsz hg.size⟩
  · have hk' : k = 0 ∨ k = 1 ∨ k = 2 ∨ k = 3 := by omega
    generalize (wr.drew.alloc (.cells #[] 36)) = W at hkey ⊢
    rcases hk' with rfl | rfl | rfl | rfl
    · have := range_splice (o := 0) (p := []) (old := U8 (Z 8)) (new := U8 (leB a)) (q := U8 (Z 24)) (by rw [List.nil_append, ← U8_append, ← Z_append]; exact hkey) (by rw [U8_length, U8_length]; rfl)
      rw [List.nil_append, ← U8_append] at this
      exact this
    · have := range_splice (o := 0) (p := U8 (leB a)) (old := U8 (Z 8)) (new := U8 (leB 0)) (q := U8 (Z 16)) (by rw [← U8_append, ← U8_append, ← Z_append]; exact hkey) (by rw [U8_length, U8_length]; rfl)
      rw [← U8_append, ← U8_append, U8_length] at this
      exact this
    · have := range_splice (o := 0) (p := U8 (leB a ++ leB 0)) (old := U8 (Z 8)) (new := U8 (leB 0)) (q := U8 (Z 8)) (by rw [← U8_append, ← U8_append, ← Z_append, List.append_assoc]; exact hkey) (by rw [U8_length, U8_length]; rfl)
      rw [← U8_append, ← U8_append, U8_length, List.append_assoc] at this
      exact this
    · have := range_splice (o := 0) (p := U8 (leB a ++ (leB 0 ++ leB 0))) (old := U8 (Z 8)) (new := U8 (leB 4)) (q := []) (by rw [List.append_nil, ← U8_append, List.append_assoc, List.append_assoc]; exact hkey) (by rw [U8_length, U8_length]; rfl)
      rw [List.append_nil, ← U8_append, U8_length, List.append_assoc, List.append_assoc] at this
      exact this
  · rw [World.frozen?_setCells, frozen?_alloc_cells]; exact h.kz j
  · rw [World.frozen?_setCells, frozen?_alloc_cells]; exact h.rz

theorem NIn.start (w : World) (a : Int) : NIn w a 0 (((w.alloc (.cells #[.pointer none] 29)).alloc (.cells (U8 (Z 32)).toArray 33)).alloc (.cells #[.int .u64 a, .int .u64 0, .int .u64 0, .int .u64 4] 22)) := by
  have s1 : (w.alloc (.cells #[.pointer none] 29)).heap.size = w.heap.size + 1 := World.size_alloc _ _
  have s2 : ((w.alloc (.cells #[.pointer none] 29)).alloc (.cells (U8 (Z 32)).toArray 33)).heap.size = w.heap.size + 1 + 1 := by rw [World.size_alloc, s1]
  have fz : ∀ p : Addr, p.block ≥ w.heap.size → (((w.alloc (.cells #[.pointer none] 29)).alloc (.cells (U8 (Z 32)).toArray 33)).alloc (.cells #[.int .u64 a, .int .u64 0, .int .u64 0, .int .u64 4] 22)).frozen? p = false := fun p hp => by
    rw [frozen?_alloc_cells, frozen?_alloc_cells, frozen?_alloc_cells]
    have : w.heap[p.block]? = none := by simpa using hp
    simp [World.frozen?, this]
  have c3 : ∀ o, (((w.alloc (.cells #[.pointer none] 29)).alloc (.cells (U8 (Z 32)).toArray 33)).alloc (.cells #[.int .u64 a, .int .u64 0, .int .u64 0, .int .u64 4] 22)).cell? ⟨w.heap.size + 1 + 1, o, none⟩ = (#[Value.int .u64 a, Value.int .u64 0, Value.int .u64 0, Value.int .u64 4] : Array Value)[o]? := fun o => by
    have := (MapKept.heap_alloc ((w.alloc (.cells #[.pointer none] 29)).alloc (.cells (U8 (Z 32)).toArray 33)) (.cells #[.int .u64 a, .int .u64 0, .int .u64 0, .int .u64 4] 22)).1
    rw [s2] at this
    unfold World.cell?
    rw [this]; rfl
  refine ⟨World.rangeAt_alloc (by have := rangeAt_new (w.alloc (.cells #[.pointer none] 29)) (U8 (Z 32)) 33; rw [s1] at this; exact this) _, fun j => fz _ (by simp), (c3 0).trans rfl, (c3 1).trans rfl, (c3 2).trans rfl, (c3 3).trans rfl, ?_, fz _ (by simp), ?_, by rw [World.size_alloc, s2]; omega⟩
  · refine cell_alloc _ (cell_alloc _ ?_)
    unfold World.cell?
    rw [(MapKept.heap_alloc w _).1]; rfl
  · exact (((Below.refl _ w).alloc (Nat.le_refl _) _).alloc (by rw [s1]; omega) _).alloc (by rw [s2]; omega) _
/-- The state of the stream of purpose 4 that a keys. -/
def gs0 (a : Int) : GS := ⟨blk [leW (keyAt a 4) 0, leW (keyAt a 4) 8, leW (keyAt a 4) 16, leW (keyAt a 4) 24] 0, [leW (keyAt a 4) 0, leW (keyAt a 4) 8, leW (keyAt a 4) 16, leW (keyAt a 4) 24], 0, 32, 0⟩
theorem gs0_ok (a : Int) : (gs0 a).ok := ⟨Or.inl rfl, show (32 : Int) ≤ 32 by decide⟩
theorem wr8 : IntKind.i64.wrap 8 = 8 := by decide
theorem wr16 : IntKind.i64.wrap 16 = 16 := by decide
theorem wr24 : IntKind.i64.wrap 24 = 24 := by decide
theorem wr0 : IntKind.i64.wrap 0 = 0 := by decide
set_option maxRecDepth 100000 in
set_option maxHeartbeats 1000000 in
theorem new_any (a : Int) (h0 : 0 ≤ a) (h1 : a ≤ 18446744073709551615) (w : World) :
    Calls Yba.prog 6 #[.int .u64 4, .int .u64 a, .int .u64 0, .int .u64 0] w fun e w' => ∃ b, e = .returned (.agg #[.pointer (some ⟨b, 0, none⟩)]) ∧ w.heap.size ≤ b ∧ GenS w' b (gs0 a) ∧ Below w.heap.size w w' := by
  have hal := al33
  have hw0 := wr0
  have hw8 := wr8
  have hw16 := wr16
  have hw24 := wr24
  go_enter Yba.func6, Yba.ntmps6
  go_wp2
  change Code.wp _ _ _ _ (((w.alloc (.cells #[.pointer none] 29)).alloc (.cells (U8 (Z 32)).toArray 33)).alloc (.cells #[.int .u64 a, .int .u64 0, .int .u64 0, .int .u64 4] 22))
  go_loopw [18] (fun t wr => ∃ c : Int, t = .int .i64 c ∧ ((c = 0 ∧ NIn w a 0 wr) ∨ (c = 1 ∧ NIn w a 1 wr) ∨ (c = 2 ∧ NIn w a 2 wr) ∨ (c = 3 ∧ NIn w a 3 wr) ∨ (c = 4 ∧ NIn w a 4 wr))) (fun t _ => 4 - (intOf t).toNat)
  case atStart => exact ⟨0, rfl, Or.inl ⟨rfl, NIn.start w a⟩⟩
  case round =>
    obtain ⟨c, rfl, hc⟩ := hrel
    rcases hc with ⟨rfl, hin⟩ | ⟨rfl, hin⟩ | ⟨rfl, hin⟩ | ⟨rfl, hin⟩ | ⟨rfl, hin⟩
    · have v0 := hin.v0
      have H := toHid hin
      clear hin
      go_wp2_with fail
      go_region_with (go_at_call 8; refine (put_says (w.heap.size + 1) 0 _ _ a h0 h1 _ (by decide) (by exact H.out.there (by decide))).mono ?_; rintro e w' ⟨rfl, rfl⟩)
      go_wp2
      go_roundw
      case rel => exact ⟨1, by go_num, Or.inr (Or.inl ⟨rfl, H.out.next (by decide)⟩)⟩
      case measure => simp [intOf]
    · have v0 := hin.v1
      have H := toHid hin
      clear hin
      go_wp2_with fail
      go_region_with (go_at_call 8; refine (put_says (w.heap.size + 1) 8 _ _ 0 (by decide) (by decide) _ (by decide) (by exact H.out.there (by decide))).mono ?_; rintro e w' ⟨rfl, rfl⟩)
      go_wp2
      go_roundw
      case rel => exact ⟨2, by go_num, Or.inr (Or.inr (Or.inl ⟨rfl, H.out.next (by decide)⟩))⟩
      case measure => simp [intOf]
    · have v0 := hin.v2
      have H := toHid hin
      clear hin
      go_wp2_with fail
      go_region_with (go_at_call 8; refine (put_says (w.heap.size + 1) 16 _ _ 0 (by decide) (by decide) _ (by decide) (by exact H.out.there (by decide))).mono ?_; rintro e w' ⟨rfl, rfl⟩)
      go_wp2
      go_roundw
      case rel => exact ⟨3, by go_num, Or.inr (Or.inr (Or.inr (Or.inl ⟨rfl, H.out.next (by decide)⟩)))⟩
      case measure => simp [intOf]
    · have v0 := hin.v3
      have H := toHid hin
      clear hin
      go_wp2_with fail
      go_region_with (go_at_call 8; refine (put_says (w.heap.size + 1) 24 _ _ 4 (by decide) (by decide) _ (by decide) (by exact H.out.there (by decide))).mono ?_; rintro e w' ⟨rfl, rfl⟩)
      go_wp2
      go_roundw
      case rel => exact ⟨4, by go_num, Or.inr (Or.inr (Or.inr (Or.inr ⟨rfl, H.out.next (by decide)⟩)))⟩
      case measure => simp [intOf]
    · have res := hin.res
      have rz := hin.rz
      have H := toHid hin
      clear hin
      go_wp2_with (refine wpList_load_mid (hgd := rfl) 33 (.tmp 9) rfl (w.heap.size + 1) 0 rfl (U8 (keyAt a 4)) _ (by exact H.out.key) Yba.underlying33 rfl (by rw [U8_length, keyAt_length]; kernel_rfl) ?_)
      refine (chacha_any (keyAt a 4) (keyAt_length a 4) wr).mono ?_
      rintro e w1 ⟨b, rfl, hb, hg, hbel⟩
      have hsz := H.out.size
      have res1 : w1.cell? ⟨w.heap.size, 0, none⟩ = some (.pointer none) := (hbel.cell (p := ⟨w.heap.size, 0, none⟩) (by show w.heap.size < wr.heap.size; omega)).trans res
      have rz1 : w1.frozen? ⟨w.heap.size, 0, none⟩ = false := (hbel.frozen (p := ⟨w.heap.size, 0, none⟩) (by show w.heap.size < wr.heap.size; omega)).trans rz
      have HG : Hid (GenS (w1.setCell ⟨w.heap.size, 0, none⟩ (.pointer (some ⟨b, 0, none⟩))) b (gs0 a)) := Gen.kept hg (Below.heap_setCell _ _ _ _ (by show b ≠ w.heap.size; omega))
      have HB : Hid (Below w.heap.size w (w1.setCell ⟨w.heap.size, 0, none⟩ (.pointer (some ⟨b, 0, none⟩)))) := (H.out.below.trans (hbel.mono (by omega))).setCell (Nat.le_refl _) _
      clear res rz hg hbel
      go_wp2
      refine bodyPost_ret (v := .agg #[.pointer (some ⟨b, 0, none⟩)]) (by simp [results, Yba.results6, go_sem, res1]) rfl ⟨b, rfl, by omega, HG.out, HB.out⟩
end Go.Proofs.Ybulkefdy
