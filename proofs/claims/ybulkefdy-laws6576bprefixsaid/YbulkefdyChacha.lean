/-
  The walk of NewChaCha8 (9): a new generator out of a key of 32 bytes.
-/
import Derived.Test.YbulkefdyInit
import Derived.Deep.RegionHeld3
namespace Go.Proofs.Ybulkefdy
open Go.RowKit
def z49 : Array Value := #[Value.int IntKind.u64 0, Value.int IntKind.u64 0, Value.int IntKind.u64 0, Value.int IntKind.u64 0,
          Value.int IntKind.u64 0, Value.int IntKind.u64 0, Value.int IntKind.u64 0, Value.int IntKind.u64 0,
          Value.int IntKind.u64 0, Value.int IntKind.u64 0, Value.int IntKind.u64 0, Value.int IntKind.u64 0,
          Value.int IntKind.u64 0, Value.int IntKind.u64 0, Value.int IntKind.u64 0, Value.int IntKind.u64 0,
          Value.int IntKind.u64 0, Value.int IntKind.u64 0, Value.int IntKind.u64 0, Value.int IntKind.u64 0,
          Value.int IntKind.u64 0, Value.int IntKind.u64 0, Value.int IntKind.u64 0, Value.int IntKind.u64 0,
          Value.int IntKind.u64 0, Value.int IntKind.u64 0, Value.int IntKind.u64 0, Value.int IntKind.u64 0,
          Value.int IntKind.u64 0, Value.int IntKind.u64 0, Value.int IntKind.u64 0, Value.int IntKind.u64 0,
          Value.int IntKind.u64 0, Value.int IntKind.u64 0, Value.int IntKind.u64 0, Value.int IntKind.u64 0,
          Value.int IntKind.u32 0, Value.int IntKind.u32 0, Value.int IntKind.u32 0, Value.int IntKind.u8 0,
          Value.int IntKind.u8 0, Value.int IntKind.u8 0, Value.int IntKind.u8 0, Value.int IntKind.u8 0,
          Value.int IntKind.u8 0, Value.int IntKind.u8 0, Value.int IntKind.u8 0, Value.int IntKind.i64 0]

theorem toHid {p : Prop} (h : p) : Hid p := h
theorem range_kept {w w' : World} {b o r : Nat} {cs : List Value} (h : w.rangeAt b o cs) (hg : w.grownBy w' (some r)) (hne : b ≠ r) : w'.rangeAt b o cs := fun j v hv =>
  hg.cell (h j v hv) (by simpa using hne)
theorem U8_one (l : List Int) : ∀ v ∈ U8 l, v.oneCell' = true := by
  intro v hv
  simp only [U8, List.mem_map] at hv
  obtain ⟨x, _, rfl⟩ := hv
  rfl
theorem z49_eq : z49 = (U64 (List.replicate 32 0) ++ (U64 (List.replicate 4 0) ++ ([.int .u32 0, .int .u32 0, .int .u32 0, .int .u8 0, .int .u8 0, .int .u8 0, .int .u8 0, .int .u8 0, .int .u8 0, .int .u8 0, .int .u8 0, .int .i64 0] : List Value))).toArray := by kernel_rfl
theorem gen_new (w : World) : Gen (w.alloc (.cells z49 49)) w.heap.size (List.replicate 32 0) (List.replicate 4 0) 0 0 0 := by
  have hc : ∀ o, (w.alloc (.cells z49 49)).cell? ⟨w.heap.size, o, none⟩ = z49[o]? := fun o => by
    unfold World.cell?; rw [(MapKept.heap_alloc w _).1]; rfl
  have hf : ∀ o, (w.alloc (.cells z49 49)).frozen? ⟨w.heap.size, o, none⟩ = false := fun o => by
    rw [frozen?_alloc_cells]; simp [World.frozen?]
  refine ⟨rfl, rfl, fun j v hv => ?_, fun j v hv => ?_, (hc _).trans (by kernel_rfl), (hc _).trans (by kernel_rfl), (hc _).trans (by kernel_rfl), hf⟩
  · rw [hc, z49_eq, Nat.zero_add]
    have hj : j < (U64 (List.replicate 32 0)).length := (List.getElem?_eq_some_iff.1 hv).1
    rw [List.getElem?_toArray, List.getElem?_append_left hj]; exact hv
  · rw [hc, z49_eq]
    have hj : j < (U64 (List.replicate 4 0)).length := (List.getElem?_eq_some_iff.1 hv).1
    have h32 : (U64 (List.replicate 32 0)).length = 32 := by simp [U64]
    rw [List.getElem?_toArray, List.getElem?_append_right (by omega), List.getElem?_append_left (by omega), h32, show 32 + j - 32 = j by omega]; exact hv

set_option maxHeartbeats 1000000 in
theorem chacha_any (key : List Int) (hk : key.length = 32) (w : World) :
    Calls Yba.prog 9 #[.agg (U8 key).toArray] w fun e w' => ∃ b, e = .returned (.pointer (some ⟨b, 0, none⟩)) ∧ w.heap.size ≤ b ∧
      Gen w' b (blk [leW key 0, leW key 8, leW key 16, leW key 24] 0) [leW key 0, leW key 8, leW key 16, leW key 24] 0 32 0 ∧ Below w.heap.size w w' := by
  have hr : Hid (((w.alloc (.cells (U8 key).toArray 33)).alloc (.cells z49 49)).rangeAt w.heap.size 0 (U8 key)) := World.rangeAt_alloc (rangeAt_new w (U8 key) 33) _
  have G : Hid (Gen ((w.alloc (.cells (U8 key).toArray 33)).alloc (.cells z49 49)) (w.heap.size + 1) (List.replicate 32 0) (List.replicate 4 0) 0 0 0) := by
    have := gen_new (w.alloc (.cells (U8 key).toArray 33))
    simp only [World.size_alloc] at this
    exact this
  have hu := Yba.underlying33
  have hi : (Yba.prog.info? 33).map (·.size) = some (U8 key).length := by rw [U8_length, hk]; kernel_rfl
  have hl : (U8 key).length = 32 := by rw [U8_length, hk]
  have ho : ∀ v ∈ U8 key, v.oneCell' = true := U8_one key
  go_enter Yba.func9, Yba.ntmps9
  go_wp2
  change Code.wp _ _ _ _ ((w.alloc (.cells (U8 key).toArray 33)).alloc (.cells z49 49))
  go_region_held3 (fun w' => w'.rangeAt w.heap.size 0 (U8 key)) (first | exact hr.out | assumption)
    (first | (go_at_call 11; refine (init_any (w.heap.size + 1) _ _ _ _ _ key hk _ (by exact Gen.kept G.out rfl)).mono ?_; rintro e w' ⟨rfl, hg, hr2⟩; have hr3 : w'.rangeAt w.heap.size 0 (U8 key) := range_kept (by exact hr.out) hr2 (by omega)))
  have B : Hid (Below w.heap.size w w') := ((((Below.refl _ w).alloc (Nat.le_refl _) (.cells (U8 key).toArray 33)).alloc (by simp) (.cells z49 49)).drew).grown hr2 (by simp <;> omega) (by rintro k ⟨⟩; omega)
  have HG := toHid hg
  clear hr2 hr3 hg
  go_wp2
  go_ret
  exact ⟨_, rfl, by omega, HG.out, B.out⟩
end Go.Proofs.Ybulkefdy
