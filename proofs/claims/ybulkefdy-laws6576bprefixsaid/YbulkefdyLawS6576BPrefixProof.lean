/-
  A proof of 'Rows.LawS6576BPrefixSaid': the sides of a run of fewer nodes are those of a run of more, and two calls agree.
  The frame is the guide's template; the walk takes Sides by its contract (YbulkefdySides): cell j of the result is 'bit seed j', whatever the run's size.
-/
import Derived.Test.YbulkefdySides
import Derived.WalkKit
import Derived.WalkSpells
import Derived.Deep.QuietTactic
import Derived.BigQuiet
import Derived.ProofKit
import Derived.OpenShut
import Derived.ChangeOld
import Derived.Below
namespace Go.Proofs.Ybulkefdy.lawS6576BPrefix
open Go.ChangeShapes Go.WideShapes Go.ChangeAt Go.RowKit
set_option linter.unusedVariables false

theorem own : ownKnob Yba.prog.godebug = none := by kernel_rfl

theorem u64_bounds {a : Int} (h : (Lit.int .u64 a).wf = true) : 0 ≤ a ∧ a ≤ 18446744073709551615 := by
  simp [Lit.wf, IntKind.min, IntKind.max, IntKind.signed, IntKind.bits] at h
  omega
theorem rem_cases (n : Int) : ∃ k : Nat, k ≤ 4096 ∧ (n.tmod 4097 = k ∨ (0 < k ∧ n.tmod 4097 = -k)) := by
  have h1 := Int.tmod_lt_of_pos n (show (0 : Int) < 4097 by decide)
  have h2 := Int.lt_tmod_of_pos n (show (0 : Int) < 4097 by decide)
  exact ⟨(n.tmod 4097).natAbs, by omega, by omega⟩
theorem cells_kept {v v' : World} {A n : Nat} {f : Nat → Bool} (h : ∀ j, j ≤ n → v.cell? ⟨A, j, none⟩ = some (.bool (f j))) (hb : Below v.heap.size v v') :
    ∀ j, j ≤ n → v'.cell? ⟨A, j, none⟩ = some (.bool (f j)) := fun j hj =>
  (hb.cell (p := ⟨A, j, none⟩) (World.block_lt_of_cell? v _ (h j hj))).trans (h j hj)
set_option maxRecDepth 100000 in
set_option maxHeartbeats 4000000 in
theorem walkAll (a0 : Int) (a1 : Int) (a2 : Int) (h0 : 0 ≤ a0) (h1 : a0 ≤ 18446744073709551615) (lo hi : Nat) (hlh : lo ≤ hi) (hh : hi ≤ 4096)
    (hc : ((a1.tmod 4097 = lo ∨ (0 < lo ∧ a1.tmod 4097 = -lo)) ∧ (a2.tmod 4097 = hi ∨ (0 < hi ∧ a2.tmod 4097 = -hi))) ∨
      (lo < hi ∧ (a1.tmod 4097 = hi ∨ (0 < hi ∧ a1.tmod 4097 = -hi)) ∧ (a2.tmod 4097 = lo ∨ (0 < lo ∧ a2.tmod 4097 = -lo)))) (w : World) :
    Calls Yba.prog 4 #[.int .u64 a0, .int .i64 a1, .int .i64 a2] w fun e w' => e = .returned (.bool true) ∧ Below w.heap.size w w' := by
  rcases hc with ⟨e1 | ⟨p1, e1⟩, e2 | ⟨p2, e2⟩⟩ | ⟨hs, e1 | ⟨p1, e1⟩, e2 | ⟨p2, e2⟩⟩
  all_goals
    go_enter Yba.func4, Yba.ntmps4
    go_wp2_with fail
    clear e1 e2
    refine (sides_any a0 h0 h1 lo (by omega) _).mono ?_
    rintro e v1 ⟨A, rfl, hA, cA, bA⟩
    have CA := toHid cA
    have BA := toHid bA
    clear cA bA
    go_wp2_with fail
    refine (sides_any a0 h0 h1 hi (by omega) _).mono ?_
    rintro e v2 ⟨B, rfl, hB, cB, bB⟩
    have CA2 := toHid (cells_kept CA.out bB)
    have CB := toHid cB
    have BB := toHid (BA.out.trans (bB.mono BA.out.size))
    clear cB bB CA BA
    go_wp2_with fail
    refine (sides_any a0 h0 h1 hi (by omega) _).mono ?_
    rintro e v3 ⟨C, rfl, hC, cC, bC⟩
    have CA3 := toHid (cells_kept CA2.out bC)
    have CB3 := toHid (cells_kept CB.out bC)
    have CC := toHid cC
    have BC := toHid (BB.out.trans (bC.mono BB.out.size))
    clear cC bC CA2 CB BB
    go_wp2_with fail
    go_loopw [12] (fun t wr => ∃ k nq : Nat, k ≤ lo + 1 ∧ t = .int .i64 k ∧ wr = v3.drewN nq) (fun t _ => lo + 1 - (intOf t).toNat)
    case atStart => exact ⟨0, 0, by omega, rfl, rfl⟩
    case round =>
      obtain ⟨k, nq, hk, rfl, rfl⟩ := hrel
      by_cases hlt : k ≤ lo
      · have ca := CA3.out k hlt
        have cb := CB3.out k (by omega)
        generalize bit a0 k = x at ca cb
        have i1 : (k : Int) < ((lo + 1 : Nat) : Int) := by omega
        have i2 : (k : Int) < ((hi + 1 : Nat) : Int) := by omega
        go_wp2
        go_quiet (fail)
        go_wp2
        go_roundw
        case rel => exact ⟨k + 1, _, by omega, by go_num, rfl⟩
        case measure => simp [intOf]; omega
      · go_wp2_with fail
        go_loopw [13] (fun t wr => ∃ k nq : Nat, k ≤ hi + 1 ∧ t = .int .i64 k ∧ wr = v3.drewN nq) (fun t _ => hi + 1 - (intOf t).toNat)
        case atStart => exact ⟨0, nq, by omega, rfl, rfl⟩
        case round =>
          obtain ⟨j, nj, hj, rfl, rfl⟩ := hrel
          by_cases hlj : j ≤ hi
          · have ca := CB3.out j hlj
            have cb := CC.out j hlj
            generalize bit a0 j = x at ca cb
            have i2 : (j : Int) < ((hi + 1 : Nat) : Int) := by omega
            go_wp2
            go_quiet (fail)
            go_wp2
            go_roundw
            case rel => exact ⟨j + 1, _, by omega, by go_num, rfl⟩
            case measure => simp [intOf]; omega
          · go_wp2_with fail
            go_ret
            exact ⟨rfl, BC.out.trans ⟨rfl, rfl, rfl, Nat.le_refl _, fun _ _ => rfl⟩⟩

theorem walk (a0 : Int) (a1 : Int) (a2 : Int) (w0 : (Lit.int .u64 a0).wf = true) (w1 : (Lit.int .i64 a1).wf = true) (w2 : (Lit.int .i64 a2).wf = true) (w : World) :
    Calls Yba.prog 4 #[.int .u64 a0, .int .i64 a1, .int .i64 a2] w fun e w' => e = .returned (.bool true) ∧ Below w.heap.size w w' := by
  obtain ⟨h0, h1⟩ := u64_bounds w0
  obtain ⟨k1, hk1, c1⟩ := rem_cases a1
  obtain ⟨k2, hk2, c2⟩ := rem_cases a2
  by_cases h : k1 ≤ k2
  · exact walkAll a0 a1 a2 h0 h1 k1 k2 h hk2 (Or.inl ⟨c1, c2⟩) w
  · exact walkAll a0 a1 a2 h0 h1 k2 k1 (by omega) hk1 (Or.inr ⟨by omega, c1, c2⟩) w

/-! ### THE ROW's STEP: WRITTEN OUT: LEAVE IT -/
set_option maxRecDepth 100000 in
theorem lifted (os : Os) (started : os.Started) (H : Type) (enc : TypeId × Value → H) :
    ReturnsInHanded {} Yba.checked os 4 .any (Rows.lawS6576BPrefixSpec.pre6 enc Yba.prog Yba.f4 Rows.lawS6576BPrefixRow.domain false) (Rows.lawS6576BPrefixSpec.post enc Yba.prog Yba.f4 false true false false) := by
  refine returnsInHanded_of_change (C := Yba.checked) own started (by kernel_rfl) Yba.func4
    (ChangeSpec.witness6 (enc := enc) (C := Yba.checked) false ⟨#[], #[.int .u64 0, .int .i64 0, .int .i64 0], []⟩ 8 (by kernel_rfl) (by kernel_rfl) (by kernel_rfl) (by kernel_rfl)) ?_
  intro W base args ds gs before hval0 hW hcnd _
  have hval : ∀ (j : Nat) t v, Yba.f4.params[j]? = some t → args[j]? = some v → Value.okWide Yba.prog W .any base t v := hval0
  have hW' := hW
  obtain ⟨p, q, hA0, hV, rfl, hfz, hnd⟩ := hW
  have hA : DataW.TrodAll enc Yba.prog W 0 (fun _ => true) true Yba.f4.params.toList args.toList ds p := hA0
  rw [Yba.params4] at hA hval
  obtain ⟨v0, vs0, d0, ds0, p0, q0, hargs, rfl, rfl, h0, r0⟩ := trodAll_cons hA
  obtain ⟨v1, vs1, d1, ds1, p1, q1, rfl, rfl, rfl, h1, r1⟩ := trodAll_cons r0
  obtain ⟨v2, vs2, d2, ds2, p2, q2, rfl, rfl, rfl, h2, r2⟩ := trodAll_cons r1
  obtain ⟨rfl, rfl, rfl⟩ := trodAll_nil r2
  obtain rfl : args = #[v0, v1, v2] := by cases args; simp_all
  obtain ⟨rfl, rfl⟩ := trodVars_none hV
  obtain ⟨a0, rfl, rfl, rfl, w0⟩ := open_int Yba.underlying22 (hval 0 22 v0 rfl rfl) h0
  obtain ⟨a1, rfl, rfl, rfl, w1⟩ := open_int Yba.underlying3 (hval 1 3 v1 rfl rfl) h1
  obtain ⟨a2, rfl, rfl, rfl, w2⟩ := open_int Yba.underlying3 (hval 2 3 v2 rfl rfl) h2
  clear hA0 hval0
  refine (walk a0 a1 a2 w0 w1 w2 W).mono fun e W' ⟨he, bel⟩ => ?_
  subst he
  exact ⟨_, rfl, _, _, _, [], _, [], hW', trodAll_mk1 (shut_bool Yba.underlying4 _), (trodAll_cons_mk (shut_int Yba.underlying22 w0) (trodAll_cons_mk (shut_int Yba.underlying3 w1) (trodAll_cons_mk (shut_int Yba.underlying3 w2) trodAll_mk0))), rfl, bel.frame _, fun h => by cases h⟩

theorem over : Rows.lawS6576BPrefixRow.holds Yba.pinned (OpenSpec.ofChange Rows.lawS6576BPrefixSpec) :=
  OpenClaim.holds_of_wide 4 Yba.f4 rfl rfl rfl rfl rfl rfl rfl ⟨rfl, rfl, rfl, rfl, rfl⟩ rfl rfl rfl rfl rfl (by kernel_rfl) Yba.func4 (by kernel_rfl)
    (of_decide_eq_true (by kernel_rfl)) (by unfold Func.isWrapper; first | (rw [if_pos (by decide +kernel)]; kernel_rfl) | (rw [if_neg (by decide +kernel)]; exact ⟨rfl, rfl⟩))
    (fun os started H enc _ => lifted os started H enc)

/-- ████ THE STATEMENT ████ -/
theorem proved : Rows.LawS6576BPrefixSaid :=
  over
end Go.Proofs.Ybulkefdy.lawS6576BPrefix
