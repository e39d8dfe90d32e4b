/-
  A proof of 'Rows.LawS6576BPartSaid': Sides(seed, -1) is empty and not nil; Sides(seed, k) has k + 1 slots, and slot 0 is false.
  The frame is the guide's template; the walk takes Sides by its contract (YbulkefdySides).
-/
import Derived.Test.YbulkefdySides
import Derived.WalkKit
import Derived.WalkSpells
import Derived.WalkLawsBesides
import Derived.ProofKit
import Derived.OpenShut
import Derived.ChangeOld
import Derived.Below
namespace Go.Proofs.Ybulkefdy.lawS6576BPart
open Go.ChangeShapes Go.WideShapes Go.ChangeAt Go.RowKit
set_option linter.unusedVariables false

theorem own : ownKnob Yba.prog.godebug = none := by kernel_rfl

theorem u64_bounds {a : Int} (h : (Lit.int .u64 a).wf = true) : 0 ≤ a ∧ a ≤ 18446744073709551615 := by
  simp [Lit.wf, IntKind.min, IntKind.max, IntKind.signed, IntKind.bits] at h
  omega
theorem rem_bounds (n : Int) : -4096 ≤ n.tmod 4097 ∧ n.tmod 4097 ≤ 4096 := by
  have h1 := Int.tmod_lt_of_pos n (show (0 : Int) < 4097 by decide)
  have h2 := Int.lt_tmod_of_pos n (show (0 : Int) < 4097 by decide)
  omega
set_option maxRecDepth 100000 in
set_option maxHeartbeats 1000000 in
theorem walk (a0 : Int) (a1 : Int) (w0 : (Lit.int .u64 a0).wf = true) (w1 : (Lit.int .i64 a1).wf = true) (w : World) :
    Calls Yba.prog 3 #[.int .u64 a0, .int .i64 a1] w fun e w' => e = .returned (.bool true) ∧ Below w.heap.size w w' := by
  obtain ⟨h0, h1⟩ := u64_bounds w0
  obtain ⟨r0, r1⟩ := rem_bounds a1
  have hnil : ∀ (W : World) (x : Addr) (l c : Nat), (binOp .eql 23 (.slice (some x) l c) (.slice none 0 0)).run Yba.prog W = .ok (.bool false) W := fun W x l c => Lib.run_eql_slice_nil W 23 4 (some x) l c 0 0 Yba.underlying23
  by_cases hneg : a1.tmod 4097 < 0
  · obtain ⟨k, hk⟩ : ∃ k : Nat, -a1.tmod 4097 = k := ⟨(-a1.tmod 4097).toNat, by omega⟩
    have hk2 : k ≤ 4096 := by omega
    have HK := toHid hk
    clear hk
    go_enter Yba.func3, Yba.ntmps3
    go_wp2_with fail
    rw [HK.out]
    generalize a1.tmod 4097 = q at *
    refine (sides_neg a0 h0 h1 _).mono ?_
    rintro e v1 ⟨H1, rfl, hb1⟩
    have HB1 := toHid hb1
    clear hb1
    go_wp2_with fail
    refine (sides_any a0 h0 h1 k hk2 _).mono ?_
    rintro e v2 ⟨H2, rfl, hH, hc, hb2⟩
    have HB2 := toHid (HB1.out.trans (hb2.mono HB1.out.size))
    have c0 := hc 0 (Nat.zero_le _)
    clear hb2 hc
    go_wp2_with fail
    go_ret
    exact ⟨rfl, HB2.out⟩
  · obtain ⟨k, hk⟩ : ∃ k : Nat, a1.tmod 4097 = k := ⟨(a1.tmod 4097).toNat, by omega⟩
    have hk2 : k ≤ 4096 := by omega
    have HK := toHid hk
    clear hk
    go_enter Yba.func3, Yba.ntmps3
    go_wp2_with fail
    rw [HK.out]
    refine (sides_neg a0 h0 h1 _).mono ?_
    rintro e v1 ⟨H1, rfl, hb1⟩
    have HB1 := toHid hb1
    clear hb1
    go_wp2_with fail
    refine (sides_any a0 h0 h1 k hk2 _).mono ?_
    rintro e v2 ⟨H2, rfl, hH, hc, hb2⟩
    have HB2 := toHid (HB1.out.trans (hb2.mono HB1.out.size))
    have c0 := hc 0 (Nat.zero_le _)
    clear hb2 hc
    go_wp2_with fail
    go_ret
    exact ⟨rfl, HB2.out⟩

/-! ### THE ROW's STEP: WRITTEN OUT: LEAVE IT -/
set_option maxRecDepth 100000 in
theorem lifted (os : Os) (started : os.Started) (H : Type) (enc : TypeId × Value → H) :
    ReturnsInHanded {} Yba.checked os 3 .any (Rows.lawS6576BPartSpec.pre6 enc Yba.prog Yba.f3 Rows.lawS6576BPartRow.domain false) (Rows.lawS6576BPartSpec.post enc Yba.prog Yba.f3 false true false false) := by
  refine returnsInHanded_of_change (C := Yba.checked) own started (by kernel_rfl) Yba.func3
    (ChangeSpec.witness6 (enc := enc) (C := Yba.checked) false ⟨#[], #[.int .u64 0, .int .i64 0], []⟩ 8 (by kernel_rfl) (by kernel_rfl) (by kernel_rfl) (by kernel_rfl)) ?_
  intro W base args ds gs before hval0 hW hcnd _
  have hval : ∀ (j : Nat) t v, Yba.f3.params[j]? = some t → args[j]? = some v → Value.okWide Yba.prog W .any base t v := hval0
  have hW' := hW
  obtain ⟨p, q, hA0, hV, rfl, hfz, hnd⟩ := hW
  have hA : DataW.TrodAll enc Yba.prog W 0 (fun _ => true) true Yba.f3.params.toList args.toList ds p := hA0
  rw [Yba.params3] at hA hval
  obtain ⟨v0, vs0, d0, ds0, p0, q0, hargs, rfl, rfl, h0, r0⟩ := trodAll_cons hA
  obtain ⟨v1, vs1, d1, ds1, p1, q1, rfl, rfl, rfl, h1, r1⟩ := trodAll_cons r0
  obtain ⟨rfl, rfl, rfl⟩ := trodAll_nil r1
  obtain rfl : args = #[v0, v1] := by cases args; simp_all
  obtain ⟨rfl, rfl⟩ := trodVars_none hV
  obtain ⟨a0, rfl, rfl, rfl, w0⟩ := open_int Yba.underlying22 (hval 0 22 v0 rfl rfl) h0
  obtain ⟨a1, rfl, rfl, rfl, w1⟩ := open_int Yba.underlying3 (hval 1 3 v1 rfl rfl) h1
  clear hA0 hval0
  refine (walk a0 a1 w0 w1 W).mono fun e W' ⟨he, bel⟩ => ?_
  subst he
  exact ⟨_, rfl, _, _, _, [], _, [], hW', trodAll_mk1 (shut_bool Yba.underlying4 _), (trodAll_cons_mk (shut_int Yba.underlying22 w0) (trodAll_cons_mk (shut_int Yba.underlying3 w1) trodAll_mk0)), rfl, bel.frame _, fun h => by cases h⟩

theorem over : Rows.lawS6576BPartRow.holds Yba.pinned (OpenSpec.ofChange Rows.lawS6576BPartSpec) :=
  OpenClaim.holds_of_wide 3 Yba.f3 rfl rfl rfl rfl rfl rfl rfl ⟨rfl, rfl, rfl, rfl, rfl⟩ rfl rfl rfl rfl rfl (by kernel_rfl) Yba.func3 (by kernel_rfl)
    (of_decide_eq_true (by kernel_rfl)) (by unfold Func.isWrapper; first | (rw [if_pos (by decide +kernel)]; kernel_rfl) | (rw [if_neg (by decide +kernel)]; exact ⟨rfl, rfl⟩))
    (fun os started H enc _ => lifted os started H enc)

/-- ████ THE STATEMENT ████ -/
theorem proved : Rows.LawS6576BPartSaid :=
  over
end Go.Proofs.Ybulkefdy.lawS6576BPart
