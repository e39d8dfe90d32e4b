/-
  A proof of 'Rows.LawS6575BTwiceSaid': two releases take off the sum of both, in any order.
  The frame is the guide's template; the walk takes 'release' by its contract (YbulkefdkRelease).
-/
import Derived.Test.YbulkefdkRelease
import Derived.WalkKit
import Derived.ProofKit
import Derived.OpenShut
import Derived.ShutString
import Derived.Deep.QuietTactic
import Derived.BigQuiet
namespace Go.Proofs.Ybulkefdk.lawS6575BTwice
open Go.ChangeShapes Go.WideShapes Go.ChangeAt Go.RowKit
set_option linter.unusedVariables false

theorem own : ownKnob Yba.prog.godebug = none := by kernel_rfl


def z77 : Array Value := #[.int .u8 0, .int .u8 0, .int .u8 0, .int .u8 0, .int .u8 0, .int .u8 0, .int .u8 0, .int .u8 0, .int .u8 0, .int .u8 0, .int .u8 0, .int .u8 0, .int .u8 0, .int .u8 0, .int .u8 0, .int .u8 0, .int .u8 0, .int .u8 0, .int .u8 0, .int .u8 0, .int .u8 0, .int .u8 0, .nilFunc, .int .u64 0, .int .i64 0, .pointer none, .int .i32 0, .int .u32 0, .int .u32 0, .int .u32 0, .int .i32 0, .int .i32 0, .map none, .slice none 0 0, .int .i64 0, .slice none 0 0, .int .i64 0, .slice none 0 0, .int .i64 0, .slice none 0 0, .int .i64 0, .map none, .map none, .map none, .int .i64 0, .int .i64 0, .int .i64 0, .int .u64 0, .chan none, .pointer none, .nilFunc, .int .u64 0, .map none, .pointer none, .pointer none, .pointer none, .nilIface, .int .i64 0, .int .i64 0, .map none, .int .i64 0, .int .i64 0, .int .i64 0, .slice none 0 0, .map none, .slice none 0 0, .map none, .pointer none, .int .i64 0, .int .i32 0, .int .u32 0, .map none, .int .i32 0]
theorem zero77 (w : World) : Sem.run Yba.prog (zeroValue 77) w = .ok (.agg z77) w := by kernel_rfl
theorem z77_size : z77.size = 73 := by kernel_rfl
theorem z77_26 : z77[26]? = some (.int .i32 0) := by kernel_rfl
theorem z77_28 : z77[28]? = some (.int .u32 0) := by kernel_rfl
theorem z77_29 : z77[29]? = some (.int .u32 0) := by kernel_rfl
theorem z77_30 : z77[30]? = some (.int .i32 0) := by kernel_rfl

/-- The new struct: its lock free, its 'reserved' r. -/
theorem st_new (w : World) (r : Int) : St (w.alloc (.cells (z77.setIfInBounds 45 (.int .i64 r)) 77)) w.heap.size r := by
  have hs := z77_size
  have hc : ∀ o, (w.alloc (.cells (z77.setIfInBounds 45 (.int .i64 r)) 77)).cell? ⟨w.heap.size, o, none⟩ = (z77.setIfInBounds 45 (.int .i64 r))[o]? := fun o => by
    unfold World.cell?; rw [(MapKept.heap_alloc w _).1]; rfl
  have hf : ∀ o, (w.alloc (.cells (z77.setIfInBounds 45 (.int .i64 r)) 77)).frozen? ⟨w.heap.size, o, none⟩ = false := fun o => by
    rw [frozen?_alloc_cells]; simp [World.frozen?]
  refine ⟨?_, ?_, ?_, ?_, ?_, hf _, hf _, hf _⟩
  · rw [hc, Array.getElem?_setIfInBounds_ne (by decide)]; exact z77_26
  · rw [hc, Array.getElem?_setIfInBounds_ne (by decide)]; exact z77_28
  · rw [hc, Array.getElem?_setIfInBounds_ne (by decide)]; exact z77_29
  · rw [hc, Array.getElem?_setIfInBounds_ne (by decide)]; exact z77_30
  · rw [hc]; simp [hs]

/-- A struct in a block that is not written reads as it did. -/
theorem st_kept {w w' : World} {b c : Nat} {r : Int} (st : St w b r) (hw : Wrote c w w') (h : b ≠ c) : St w' b r :=
  ⟨(hw.cell _ h).trans st.c0, (hw.cell _ h).trans st.c2, (hw.cell _ h).trans st.c3, (hw.cell _ h).trans st.c4, (hw.cell _ h).trans st.c6,
   (hw.frozen _).trans st.z0, (hw.frozen _).trans st.z4, (hw.frozen _).trans st.z6⟩
theorem st_alloc {w : World} {b : Nat} {r : Int} (st : St w b r) (h : b ≠ w.heap.size) (c : Array Value) (t : TypeId) : St (w.alloc (.cells c t)) b r := by
  have hc : ∀ o, (w.alloc (.cells c t)).cell? ⟨b, o, none⟩ = w.cell? ⟨b, o, none⟩ := fun o => World.cell?_of_block (w := w) (by
    show (w.heap.push _)[b]? = _
    rw [Array.getElem?_push, if_neg h])
  exact ⟨(hc _).trans st.c0, (hc _).trans st.c2, (hc _).trans st.c3, (hc _).trans st.c4, (hc _).trans st.c6,
   (frozen?_alloc_cells _ _ _ _).trans st.z0, (frozen?_alloc_cells _ _ _ _).trans st.z4, (frozen?_alloc_cells _ _ _ _).trans st.z6⟩

theorem u64_wrap (n : Int) : IntKind.u64.wrap n = n % 18446744073709551616 := by
  unfold IntKind.wrap
  simp [IntKind.bits, IntKind.signed]
def want (a0 a1 a2 : Int) : Int := wrap64 (IntKind.u64.wrap (IntKind.u64.wrap (IntKind.u64.wrap a0 - IntKind.u64.wrap a1) - IntKind.u64.wrap a2))
theorem want1 (a0 a1 a2 : Int) : wrap64 (wrap64 (a0 - a1) - a2) = want a0 a1 a2 := by
  unfold want
  rw [u64_wrap, u64_wrap, u64_wrap, u64_wrap, u64_wrap]
  unfold wrap64
  omega
theorem want2 (a0 a1 a2 : Int) : wrap64 (wrap64 (a0 - a2) - a1) = want a0 a1 a2 := by
  unfold want
  rw [u64_wrap, u64_wrap, u64_wrap, u64_wrap, u64_wrap]
  unfold wrap64
  omega
set_option maxRecDepth 100000 in
set_option maxHeartbeats 1000000 in
theorem walk (a0 : Int) (a1 : Int) (a2 : Int) (w0 : (Lit.int .i64 a0).wf = true) (w1 : (Lit.int .i64 a1).wf = true) (w2 : (Lit.int .i64 a2).wf = true) (w : World) :
    Calls Yba.prog 3 #[.int .i64 a0, .int .i64 a1, .int .i64 a2] w fun e w' => e = .returned (.bool true) ∧ Grown w w' := by
  have hz := zero77
  have hs := z77_size
  have st0 := st_new w a0
  have g0 : Grown w (w.alloc (.cells (z77.setIfInBounds 45 (.int .i64 a0)) 77)) := (Grown.refl w).alloc _ _
  have hb0 : w.heap.size < (w.alloc (.cells (z77.setIfInBounds 45 (.int .i64 a0)) 77)).heap.size := by simp
  go_enter Yba.func3, Yba.ntmps3
  go_wp2_with fail
  refine (release_says _ a0 _ _ st0).mono ?_
  rintro e v1 ⟨rfl, st1, wr1⟩
  have g1 := wr1.grown w (Nat.le_refl _) g0
  have hb1 : w.heap.size < v1.heap.size := by rw [wr1.size]; exact hb0
  clear st0 wr1 g0 hb0
  go_wp2_with fail
  refine (release_says _ _ _ _ st1).mono ?_
  rintro e v2 ⟨rfl, st2, wr2⟩
  have g2 := wr2.grown w (Nat.le_refl _) g1
  have hb2 : w.heap.size < v2.heap.size := by rw [wr2.size]; exact hb1
  clear st1 wr2 g1 hb1
  have st2' := st_alloc st2 (by omega) (z77.setIfInBounds 45 (.int .i64 a0)) 77
  have tt2 := st_new v2 a0
  have g2' := g2.alloc (z77.setIfInBounds 45 (.int .i64 a0)) 77
  clear st2 g2
  go_wp2_with fail
  refine (release_says _ _ _ _ tt2).mono ?_
  rintro e v3 ⟨rfl, tt3, wr3⟩
  have st3 := st_kept st2' wr3 (by omega)
  have g3 := wr3.grown w (by omega) g2'
  clear tt2 wr3 g2' st2'
  go_wp2_with fail
  refine (release_says _ _ _ _ tt3).mono ?_
  rintro e v4 ⟨rfl, tt4, wr4⟩
  have st4 := st_kept st3 wr4 (by omega)
  have g4 := wr4.grown w (by omega) g3
  clear tt3 wr4 g3 st3
  have s6 := st4.c6
  have t6 := tt4.c6
  clear hz hs st4 tt4
  have E1 : wrap64 (wrap64 (a0 - a1) - a2) = want a0 a1 a2 := want1 a0 a1 a2
  have E2 : wrap64 (wrap64 (a0 - a2) - a1) = want a0 a1 a2 := want2 a0 a1 a2
  rw [E1] at s6
  rw [E2] at t6
  clear E1 E2
  have hu : wrap64 (IntKind.u64.wrap (IntKind.u64.wrap (IntKind.u64.wrap a0 - IntKind.u64.wrap a1) - IntKind.u64.wrap a2)) = want a0 a1 a2 := rfl
  go_wp2
  go_ret
  exact ⟨by simp, g4⟩

/-! ### THE ROW's STEP: WRITTEN OUT: LEAVE IT -/
set_option maxRecDepth 100000 in
theorem lifted (os : Os) (started : os.Started) (H : Type) (enc : TypeId × Value → H) :
    ReturnsInHanded {} Yba.checked os 3 .any (Rows.lawS6575BTwiceSpec.pre6 enc Yba.prog Yba.f3 Rows.lawS6575BTwiceRow.domain false) (Rows.lawS6575BTwiceSpec.post enc Yba.prog Yba.f3 false true false false) := by
  refine returnsInHanded_of_change (C := Yba.checked) own started (by kernel_rfl) Yba.func3
    (ChangeSpec.witness6 (enc := enc) (C := Yba.checked) false ⟨#[], #[.int .i64 0, .int .i64 0, .int .i64 0], []⟩ 8 (by kernel_rfl) (by kernel_rfl) (by kernel_rfl) (by kernel_rfl)) ?_
  intro W base args ds gs before hval0 hW hcnd _
  have hval : ∀ (j : Nat) t v, Yba.f3.params[j]? = some t → args[j]? = some v → Value.okWide Yba.prog W .any base t v := hval0
  have hW' := hW
  obtain ⟨p, q, hA0, hV, rfl, hfz, hnd⟩ := hW
  have hA : DataW.TrodAll enc Yba.prog W 0 (fun _ => true) true Yba.f3.params.toList args.toList ds p := hA0
  rw [Yba.params3] at hA hval
  obtain ⟨v0, vs0, d0, ds0, p0, q0, hargs, rfl, rfl, h0, r0⟩ := trodAll_cons hA
  obtain ⟨v1, vs1, d1, ds1, p1, q1, rfl, rfl, rfl, h1, r1⟩ := trodAll_cons r0
  obtain ⟨v2, vs2, d2, ds2, p2, q2, rfl, rfl, rfl, h2, r2⟩ := trodAll_cons r1
  obtain ⟨rfl, rfl, rfl⟩ := trodAll_nil r2
  obtain rfl : args = #[v0, v1, v2] := by cases args; simp_all
  obtain ⟨rfl, rfl⟩ := trodVars_none hV
  obtain ⟨a0, rfl, rfl, rfl, w0⟩ := open_int Yba.underlying2 (hval 0 2 v0 rfl rfl) h0
  obtain ⟨a1, rfl, rfl, rfl, w1⟩ := open_int Yba.underlying2 (hval 1 2 v1 rfl rfl) h1
  obtain ⟨a2, rfl, rfl, rfl, w2⟩ := open_int Yba.underlying2 (hval 2 2 v2 rfl rfl) h2
  clear hA0 hval0
  simp only [List.append_nil] at hW'
  refine (walk a0 a1 a2 w0 w1 w2 W).mono fun e W' ⟨he, hg⟩ => ?_
  subst he
  exact ⟨_, rfl, post_of_same (pa := []) (pv := []) hW' (fun _ _ _ => (trodAll_cons_mk (shut_bool Yba.underlying4 _) trodAll_mk0)) (fun sp _ => (trodAll_cons_mk (shut_int Yba.underlying2 w0) (trodAll_cons_mk (shut_int Yba.underlying2 w1) (trodAll_cons_mk (shut_int Yba.underlying2 w2) trodAll_mk0)))) (fun _ _ => rfl) rfl
    (hg.frame _) hg.2.1 (ok_one (by kernel_rfl) rfl (okWide_bool_mk Yba.underlying4 _))⟩

theorem over : Rows.lawS6575BTwiceRow.holds Yba.pinned (OpenSpec.ofChange Rows.lawS6575BTwiceSpec) :=
  OpenClaim.holds_of_wide 3 Yba.f3 rfl rfl rfl rfl rfl rfl rfl ⟨rfl, rfl, rfl, rfl, rfl⟩ rfl rfl rfl rfl rfl (by kernel_rfl) Yba.func3 (by kernel_rfl)
    (of_decide_eq_true (by kernel_rfl)) (by unfold Func.isWrapper; first | (rw [if_pos (by decide +kernel)]; kernel_rfl) | (rw [if_neg (by decide +kernel)]; exact ⟨rfl, rfl⟩))
    (fun os started H enc _ => lifted os started H enc)

/-- ████ THE STATEMENT ████ -/
theorem proved : Rows.LawS6575BTwiceSaid :=
  over
end Go.Proofs.Ybulkefdk.lawS6575BTwice
