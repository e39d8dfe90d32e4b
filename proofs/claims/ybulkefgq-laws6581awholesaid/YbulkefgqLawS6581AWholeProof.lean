/-
  'LawS6581AWhole': the walk of the law, and the row's step.
-/
import Derived.Test.YbulkefgqGood
import Derived.Test.YbulkefgqAddBlock
import Derived.WalkKit
import Derived.ProofKit
import Derived.OpenShut
import Derived.ShutString
import Derived.ChangeOld
import Derived.Below
import Derived.Handy
namespace Go.Proofs.Ybulkefgq.lawS6581AWhole
open Go.ChangeShapes Go.WideShapes Go.ChangeAt Go.RowKit Go.Proofs.Ybulkefgq
set_option linter.unusedVariables false

theorem own : ownKnob Yba.prog.godebug = none := by kernel_rfl
theorem laidOut : laidOutB Yba.prog = true := by kernel_rfl

/-- WHAT THE WALK IS TOLD OF A SLICE OF INTEGERS THAT CAME IN: it is nil; or it leads to a row of 'cap' cells, the numbers 'zs' (the first 'len' are its elements, the rest its spare room), each fitting its kind. -/
def IsRow (k : IntKind) (w : World) (a : Option Addr) (len cap : Nat) (zs : List Int) : Prop :=
  (a = none ∧ len = 0 ∧ cap = 0 ∧ zs = []) ∨
  ∃ x, a = some x ∧ len ≤ cap ∧ cap ≤ maxLen ∧ zs.length = cap ∧ (∀ i, i < zs.length → w.cell? (x.add i) = some (.int k (zs.getD i 0))) ∧ ∀ n ∈ zs, (Lit.int k n).wf = true

set_option maxRecDepth 100000 in
set_option maxHeartbeats 1000000 in
theorem walk_big (a0 : Option Addr) (len0 cap0 : Nat) (a1 : Bool) (a2 : Int) (a3 : Int) (w : World) (hb : 1048576 < len0) (hl : len0 ≤ maxLen) :
    Calls Yba.prog 3 #[.slice a0 len0 cap0, .bool a1, .int .i64 a2, .int .i64 a3] w fun e w' => e = .returned (.bool true) ∧ Below w.heap.size w w' := by
  unfold maxLen at hl
  have hb' : (1048576 : Int) < (len0 : Int) := by omega
  go_enter Yba.func3, Yba.ntmps3
  go_wp2
  go_ret
  exact ⟨rfl, Below.refl _ _⟩

theorem make0 (m : Nat) (hm : m ≤ 1048576) (W : World) : (Instr.makeSlice 31 (.int .i64 0) (.int .i64 m)).run Yba.prog W = .ok (.slice (some ⟨W.heap.size, 0, none⟩) 0 m) (W.alloc (.cells (madeCells #[.int .i64 0] m) 2)) := by
  have := run_make (P := Yba.prog) W 31 2 Yba.t2 (.int .i64 0) Yba.underlying31 info2 zero2 .i64 .i64 0 m (by decide) (by omega) (by rw [info_bytes2]; omega) (by omega)
  rw [info_size2, Nat.mul_one, Int.toNat_natCast] at this
  exact this

theorem LIn.start (w : World) (eo : Bool) (len0 : Nat) (hs : len0 ≤ 1048576) :
    LIn w w.heap.size eo [] [] 0 (w.heap.size + 1) len0 ((w.alloc (.cells #[.slice none 0 0, .int .i64 0, .slice none 0 0, .int .i64 0, .int .i64 0, .bool eo] 30)).alloc (.cells (madeCells #[.int .i64 0] len0) 2)) := by
  have s1 : (w.alloc (.cells #[.slice none 0 0, .int .i64 0, .slice none 0 0, .int .i64 0, .int .i64 0, .bool eo] 30)).heap.size = w.heap.size + 1 := World.size_alloc _ _
  have hc : ∀ o, ((w.alloc (.cells #[.slice none 0 0, .int .i64 0, .slice none 0 0, .int .i64 0, .int .i64 0, .bool eo] 30)).alloc (.cells (madeCells #[.int .i64 0] len0) 2)).cell? ⟨w.heap.size, o, none⟩ = (#[Value.slice none 0 0, Value.int .i64 0, Value.slice none 0 0, Value.int .i64 0, Value.int .i64 0, Value.bool eo] : Array Value)[o]? := fun o => by
    rw [World.cell?_alloc_lt _ _ _ (by rw [s1]; exact Nat.lt_succ_self _)]
    unfold World.cell?; rw [(MapKept.heap_alloc w _).1]; rfl
  have hz : ∀ o, ((w.alloc (.cells #[.slice none 0 0, .int .i64 0, .slice none 0 0, .int .i64 0, .int .i64 0, .bool eo] 30)).alloc (.cells (madeCells #[.int .i64 0] len0) 2)).frozen? ⟨w.heap.size, o, none⟩ = false := fun o => by
    rw [frozen?_alloc_cells, frozen?_alloc_cells]; simp [World.frozen?]
  have hnf : ∀ k, ¬ inF (.slice none 0 0) [] k := fun k hk => by
    rcases hk with hk | ⟨v, hv, _⟩
    · cases hk
    · cases hv
  have hsz : w.heap.size + 1 ≤ ((w.alloc (.cells #[.slice none 0 0, .int .i64 0, .slice none 0 0, .int .i64 0, .int .i64 0, .bool eo] 30)).alloc (.cells (madeCells #[.int .i64 0] len0) 2)).heap.size := by rw [World.size_alloc, s1]; omega
  have hk0 : kept eo [] = [] := by cases eo <;> rfl
  refine ⟨.slice none 0 0, [], .slice none 0 0, [], ⟨⟨fun x hx => (by cases hx), (hc 0).trans rfl, (hc 1).trans rfl, hz _, hz _, World.ownsRow_nil _ _ _ _, by simp [ints], fun k v hv => (by simp at hv), fun i j v u hv => (by simp at hv), fun i v hv => (by simp at hv), Nat.lt_succ_self _, hsz⟩, rfl,
    by rw [hk0]; exact ⟨fun x hx => (by cases hx), (hc 2).trans rfl, (hc 3).trans rfl, hz _, hz _, World.ownsRow_nil _ _ _ _, by simp [locs], fun k v hv => (by simp at hv), fun i j v u hv => (by simp at hv), fun i v hv => (by simp at hv), Nat.lt_succ_self _, hsz⟩, by rw [hk0]; rfl, rfl, (hc 4).trans rfl, hz _, (hc 5).trans rfl, fun k hk => absurd hk (hnf k)⟩, ?_, ?_, ?_, Nat.le_refl _⟩
  · have := World.ownsRow_made (base := w.heap.size + 1) (e := 2) (size := 1) (w.alloc (.cells #[.slice none 0 0, .int .i64 0, .slice none 0 0, .int .i64 0, .int .i64 0, .bool eo] 30)) (madeCells #[.int .i64 0] len0) len0 (by rw [s1]; exact Nat.le_refl _) (by unfold maxLen; omega) (by rw [size_madeCells, Nat.mul_one])
    rw [s1] at this
    exact this
  · rintro (hk | hk)
    · exact hnf _ hk
    · exact hnf _ hk
  · exact ((Below.refl _ w).alloc (Nat.le_refl _) _).alloc (by rw [s1]; omega) _

theorem locs_at {ss : List Int} {i : Nat} (h : i < ss.length) : ((locs ss)[i]?).bind (fun x => x[16]?) = some (.int .i64 (ss.getD i 0)) := by
  simp [locs, locA, List.getD_eq_getElem?_getD, List.getElem?_eq_getElem h]

set_option maxRecDepth 100000 in
set_option maxHeartbeats 2000000 in
theorem walk_small (a0 : Option Addr) (len0 cap0 : Nat) (z0 : List Int) (a1 : Bool) (a2 : Int) (a3 : Int) (w : World) (hs : len0 ≤ 1048576)
    (hz : ∀ k, k < len0 → ∃ b o, a0 = some ⟨b, o, none⟩ ∧ w.cell? ⟨b, o + k, none⟩ = some (.int .u16 (z0.getD k 0)) ∧ 0 ≤ z0.getD k 0 ∧ z0.getD k 0 ≤ 65535) :
    Calls Yba.prog 3 #[.slice a0 len0 cap0, .bool a1, .int .i64 a2, .int .i64 a3] w fun e w' => e = .returned (.bool true) ∧ Below w.heap.size w w' := by
  have hmk := make0 len0 hs
  have HZ := toHid hz
  clear hz
  go_enter Yba.func3, Yba.ntmps3
  go_wp2
  go_loopw [10, 11, 33] (fun t10 t11 t33 wr => ∃ (k : Nat) (xs ss : List Int) (t : Int) (eg ec : Nat), k ≤ len0 ∧ t33 = .int .i64 k ∧ t11 = .int .i64 t ∧ t10 = .slice (some ⟨eg, 0, none⟩) xs.length ec ∧ Hid (Good xs ss t k) ∧ Hid (LIn w w.heap.size a1 xs ss t eg ec wr)) (fun _ _ t33 _ => len0 - (intOf t33).toNat)
  case atStart => exact ⟨0, [], [], 0, _, _, by omega, rfl, rfl, rfl, Good.nil, LIn.start w a1 len0 hs⟩
  case round =>
    clear hmk
    obtain ⟨k, xs, ss, t, eg, ec, hk, rfl, rfl, rfl, HG, HL⟩ := hrel
    by_cases hlt : k < len0
    · obtain ⟨b, o, rfl, hcell, hz0, hz1⟩ := HZ.out k hlt
      have hcr : wr.cell? ⟨b, o + k, none⟩ = some (.int .u16 (z0.getD k 0)) := by
        obtain ⟨_, _, _, _, _, _, _, hb, _⟩ := HL.out
        exact (hb.cell (p := ⟨b, o + k, none⟩) (World.block_lt_of_cell? w _ hcell)).trans hcell
      have hk' : (k : Int) < (len0 : Int) := by omega
      generalize z0.getD k 0 = z at *
      clear hcell
      by_cases hzz : z = 0
      · subst hzz
        go_wp2_with fail
        refine (addBlock_zero w.heap.size wr).mono ?_
        rintro e w1 ⟨rfl, hg⟩
        have HL1 := toHid (HL.out.grown hg)
        clear hg
        go_wp2_with fail
        go_roundw
        case rel => exact ⟨k + 1, xs, ss, t, eg, ec, by omega, by go_num, rfl, rfl, HG.out.skip, HL1.out⟩
        case measure => simp [intOf]; omega
      · have hzn : (z != 0) = true := by simpa using hzz
        have ht0 := HG.out.t0
        have ht1 := HG.out.t1
        have hxl := HG.out.le
        obtain ⟨hE, pE, hL, pL, h1, h2, h3, h4, h5⟩ := HL.out
        go_wp2_with fail
        refine (addBlock_some h1 z (by omega) (by omega) ht0 (by omega) (by omega)).mono ?_
        rintro e w1 ⟨rfl, hpost⟩
        obtain ⟨hE', pE', hL', pL', k1, k2, k3, k4, k5⟩ := LIn.added h1 h2 h3 h4 h5 hpost
        have HG1 := toHid (HG.out.snoc (show 0 < z by omega) hz1)
        have K1 := toHid k1
        have K2 := toHid k2
        have K3 := toHid k3
        have K4 := toHid k4
        clear h1 h2 h3 h4 hpost k1 k2 k3 k4
        go_wp2_with (refine wpList_append_lies _ rfl (.tmp 47) (.tmp 49) 31 rfl (w.heap.size + 1) 2 Yba.t2 (.int .i64 0) 1 8 Yba.underlying31 info2 zero2 info_size2 info_bytes2 rfl (by decide) (.slice (some ⟨eg, 0, none⟩) xs.length ec) xs.length (xs.map (Value.int .i64)) rfl (by exact K2.out.alloc _) ⟨w1.heap.size, 0, none⟩ 1 1 [.int .i64 (t + z)] rfl rfl (by exact World.news_of_block (MapKept.heap_alloc w1 _).1) (by simp [Value.oneCell']) (by decide) (by unfold maxLen; omega) (by omega) (by have := (K2.out.lt eg rfl); simp; omega) _ rfl ?_; intro g cap w2 hown hgrow hat hlt2; have HLN := toHid (LIn.appended K1.out K3.out K4.out (Nat.le_refl _) k5 (World.grownBy_alloc w1 _ none) hown hgrow hat); clear hown hgrow hat hlt2)
        go_roundw
        case rel => exact ⟨k + 1, xs ++ [t + z], ss ++ [z], t + z, g, cap, by omega, by go_num, rfl, by rw [List.length_append, List.length_singleton], HG1.out, HLN.out⟩
        case measure => simp [intOf]; omega
    · have hxl := HG.out.le
      obtain ⟨hE, pE, hL, pL, h1, h2, h3, h4, h5⟩ := HL.out
      go_wp2_with fail
      refine (blocksOf_any h1.E (by omega) HG.out.up a2 a3).mono ?_
      rintro e w1 ⟨c, d, rfl, hg, hc, hd⟩
      have R := toHid (h1.grown hg)
      have OW := toHid (h2.kept hg (Or.inr (by simp [Value.ownBlock])))
      have BL := toHid (h4.grown hg h4.size (by simp))
      have hn : xs.length ≤ 1048576 := by omega
      have hcn := hc.1
      have hdn := hd.1
      have HC := toHid hc.2
      have HD := toHid hd.2
      have CE : Hid (∀ j, j < xs.length → w1.cell? ⟨eg, j, none⟩ = some (.int .i64 (xs.getD j 0))) := fun j hj => by
        rw [OW.out.cellAt j (by omega)]
        simp [List.getD_eq_getElem?_getD, List.getElem?_eq_getElem hj]
      clear h1 h2 h3 h4 hg hc hd HL HZ
      go_wp2_with fail
      generalize wrap64 (a2 + a3) = T at *
      go_loop [17, 18, 63] (fun t17 t18 t63 => ∃ j : Nat, j ≤ xs.length ∧ t63 = .int .i64 j ∧ t17 = .int .i64 ((min j c : Nat) : Int) ∧ t18 = .int .i64 ((min j d : Nat) : Int)) (fun _ _ t63 => xs.length - (intOf t63).toNat)
      case atStart => exact ⟨0, by omega, rfl, by rw [Nat.zero_min]; rfl, by rw [Nat.zero_min]; rfl⟩
      case round =>
        obtain ⟨j, hj, rfl, rfl, rfl⟩ := hrel
        by_cases hjl : j < xs.length
        · have hce := CE.out j hjl
          have hc1 := HC.out.1 j
          have hc2 := HC.out.2 j
          have hd1 := HD.out.1 j
          have hd2 := HD.out.2 j
          generalize xs.getD j 0 = y at *
          simp only [decide_eq_false_iff_not, decide_eq_true_eq] at hc1 hc2 hd1 hd2
          obtain ⟨mc, hmc⟩ : ∃ mc, mc = min j c := ⟨_, rfl⟩
          obtain ⟨md, hmd⟩ : ∃ md, md = min j d := ⟨_, rfl⟩
          rw [← hmc, ← hmd]
          have HMC := toHid hmc
          have HMD := toHid hmd
          have bmc : mc ≤ 1048576 := by omega
          have bmd : md ≤ 1048576 := by omega
          clear hmc hmd
          have hj' : (j : Int) < (xs.length : Int) := by omega
          by_cases hjc : j < c
          · have hy1 : y ≤ a2 := by have := hc1 hjc; omega
            by_cases hjd : j < d
            · have hy2 : y < T := by have := hd1 hjd; omega
              clear hc1 hc2 hd1 hd2
              go_wp2_with fail
              go_round
              case rel => exact ⟨j + 1, by omega, by go_num, by have := HMC.out; rw [show ((min (j + 1) c : Nat) : Int) = (mc : Int) + 1 by omega], by have := HMD.out; rw [show ((min (j + 1) d : Nat) : Int) = (md : Int) + 1 by omega]⟩
              case measure => simp [intOf]; omega
            · have hy2 : T ≤ y := hd2 (by omega) hjl
              clear hc1 hc2 hd1 hd2
              go_wp2_with fail
              go_round
              case rel => exact ⟨j + 1, by omega, by go_num, by have := HMC.out; rw [show ((min (j + 1) c : Nat) : Int) = (mc : Int) + 1 by omega], by have := HMD.out; rw [show ((min (j + 1) d : Nat) : Int) = (md : Int) by omega]⟩
              case measure => simp [intOf]; omega
          · have hy1 : a2 < y := hc2 (by omega) hjl
            by_cases hjd : j < d
            · have hy2 : y < T := by have := hd1 hjd; omega
              clear hc1 hc2 hd1 hd2
              go_wp2_with fail
              go_round
              case rel => exact ⟨j + 1, by omega, by go_num, by have := HMC.out; rw [show ((min (j + 1) c : Nat) : Int) = (mc : Int) by omega], by have := HMD.out; rw [show ((min (j + 1) d : Nat) : Int) = (md : Int) + 1 by omega]⟩
              case measure => simp [intOf]; omega
            · have hy2 : T ≤ y := hd2 (by omega) hjl
              clear hc1 hc2 hd1 hd2
              go_wp2_with fail
              go_round
              case rel => exact ⟨j + 1, by omega, by go_num, by have := HMC.out; rw [show ((min (j + 1) c : Nat) : Int) = (mc : Int) by omega], by have := HMD.out; rw [show ((min (j + 1) d : Nat) : Int) = (md : Int) by omega]⟩
              case measure => simp [intOf]; omega
        · rw [show min j c = c by omega, show min j d = d by omega]
          have c4 := R.out.c4
          have c5 := R.out.c5
          go_wp2_with fail
          refine (lenE w1 R.out.E).mono ?_
          rintro e w2 ⟨rfl, rfl⟩
          rw [ints_length]
          go_wp2_with fail
          clear c4 c5 HC HD
          go_loopw [21] (fun t21 wr => ∃ i nq : Nat, i ≤ xs.length ∧ t21 = .int .i64 i ∧ wr = w2.drewN nq) (fun t21 _ => xs.length - (intOf t21).toNat)
          case atStart => exact ⟨0, 0, by omega, rfl, (World.drewN_zero _).symm⟩
          case round =>
            obtain ⟨i, nq, hi, rfl, rfl⟩ := hrel
            have hgr := grownBy_drewN w2 nq none
            have RW := toHid (R.out.grown hgr)
            have CW : Hid (∀ j, j < xs.length → (w2.drewN nq).cell? ⟨eg, j, none⟩ = some (.int .i64 (xs.getD j 0))) := CE.out
            have BW : Hid (Below w.heap.size w (w2.drewN nq)) := BL.out.trans ⟨rfl, rfl, rfl, Nat.le_refl _, fun _ _ => rfl⟩
            have OWW := toHid (OW.out.kept hgr (Or.inr (by simp [Value.ownBlock])))
            clear hgr
            by_cases hil : i < xs.length
            · have hgo : ∃ m, w2.drewN nq = w2.drewN m := ⟨nq, rfl⟩
              have HGO := toHid hgo
              clear hgo
              generalize w2.drewN nq = W at *
              obtain ⟨a, ha, hcall⟩ := atE RW.out.E i (by rw [ints_length]; exact hil) (by rw [ints_length]; exact hn)
              rw [ints_at hil] at ha
              have hce := CW.out i hil
              have HC := toHid hcall
              clear hcall
              generalize xs.getD i 0 = y at *
              have hi' : (i : Int) < (xs.length : Int) := by omega
              go_wp2_with fail
              go_quiet ((go_at_call 7; exact Calls.quiet_of_same (HC.out _)))
              go_wp2_with fail
              go_roundw
              case rel => obtain ⟨m, rfl⟩ := HGO.out; exact ⟨i + 1, _, by omega, by go_num, World.drewN_drewN _ _ _⟩
              case measure => simp [intOf]; omega
            · cases a1
              · generalize w2.drewN nq = W at *
                have hlL : (locs (kept false ss)).length = xs.length := by rw [locs_length]; exact HG.out.len
                go_wp2_with fail
                refine (lenL W RW.out.L).mono ?_
                rintro e w3 ⟨rfl, rfl⟩
                rw [hlL]
                clear hlL
                go_wp2_with fail
                go_loopw [22] (fun t22 wr => ∃ i nq : Nat, i ≤ xs.length ∧ t22 = .int .i64 i ∧ wr = w3.drewN nq) (fun t22 _ => xs.length - (intOf t22).toNat)
                case atStart => exact ⟨0, 0, by omega, rfl, (World.drewN_zero _).symm⟩
                case round =>
                  obtain ⟨q, nr, hq, rfl, rfl⟩ := hrel
                  by_cases hql : q < xs.length
                  · have hgr4 := grownBy_drewN w3 nr none
                    have R4 := toHid (RW.out.grown hgr4)
                    have O4 := toHid (OWW.out.kept hgr4 (Or.inr (by simp [Value.ownBlock])))
                    have C4 : Hid (∀ j, j < xs.length → (w3.drewN nr).cell? ⟨eg, j, none⟩ = some (.int .i64 (xs.getD j 0))) := CW.out
                    have HGO4 : Hid (∃ m, w3.drewN nr = w3.drewN m) := ⟨nr, rfl⟩
                    clear hgr4
                    generalize w3.drewN nr = W4 at *
                    have hsl := HG.out.len
                    obtain ⟨g, o, ha, h9⟩ := atL R4.out.L q (by rw [locs_length]; show q < ss.length; omega) (by rw [locs_length]; show ss.length ≤ _; omega)
                    rw [show ((locs (kept false ss))[q]?).bind (fun x => x[16]?) = some (.int .i64 (ss.getD q 0)) from locs_at (ss := ss) (by omega), HG.out.gap q hql] at ha
                    have h10 := fun n => prevAt (W4.drewN n) (O4.out.kept (grownBy_drewN W4 n none) (Or.inr (by simp [Value.ownBlock]))) q hql hn
                    have hce := C4.out q hql
                    obtain ⟨hy0, hy1⟩ := HG.out.bd q hql
                    have hpb : 0 ≤ (if q = 0 then 0 else xs.getD (q - 1) 0) ∧ (if q = 0 then 0 else xs.getD (q - 1) 0) ≤ t := by
                      have := HG.out.t0
                      by_cases h0 : q = 0
                      · rw [if_pos h0]; omega
                      · rw [if_neg h0]; have := HG.out.bd (q - 1) (by omega); omega
                    obtain ⟨hp0, hp1⟩ := hpb
                    have ht1 := HG.out.t1
                    have H9 := toHid h9
                    have H10 := toHid h10
                    clear h9 h10 hsl
                    generalize (if q = 0 then 0 else xs.getD (q - 1) 0) = p at *
                    generalize xs.getD q 0 = y at *
                    have htt : t ≤ 65535 * 1048576 := by omega
                    have hq' : (q : Int) < (xs.length : Int) := by omega
                    go_wp2_with fail
                    go_quiet ((first | (go_at_call 9; exact Calls.quiet_of_same (H9.out _)) | (go_at_call 10; exact Calls.quiet_of_same (H10.out _))))
                    go_wp2_with fail
                    go_roundw
                    case rel => obtain ⟨m, rfl⟩ := HGO4.out; exact ⟨q + 1, _, by omega, by go_num, World.drewN_drewN _ _ _⟩
                    case measure => simp [intOf]; omega
                  · go_wp2_with fail
                    go_ret
                    exact ⟨rfl, BW.out.trans ⟨rfl, rfl, rfl, Nat.le_refl _, fun _ _ => rfl⟩⟩
              · generalize w2.drewN nq = W at *
                go_wp2_with fail
                refine (lenL W RW.out.L).mono ?_
                rintro e w3 ⟨rfl, rfl⟩
                rw [show (locs (kept true ss)).length = 0 from rfl]
                go_wp2_with fail
                go_ret
                exact ⟨rfl, BW.out⟩

theorem walk (a0 : Option Addr) (len0 cap0 : Nat) (z0 : List Int) (a1 : Bool) (a2 : Int) (a3 : Int) (w : World) (w0 : IsRow .u16 w a0 len0 cap0 z0) (w2 : (Lit.int .i64 a2).wf = true) (w3 : (Lit.int .i64 a3).wf = true) :
    Calls Yba.prog 3 #[.slice a0 len0 cap0, .bool a1, .int .i64 a2, .int .i64 a3] w fun e w' => e = .returned (.bool true) ∧ Below w.heap.size w w' := by
  rcases w0 with ⟨rfl, rfl, rfl, rfl⟩ | ⟨x, rfl, hl, hm, hz, hcell, hwf⟩
  · exact walk_small none 0 0 [] a1 a2 a3 w (by omega) (fun k hk => by omega)
  · by_cases hb : 1048576 < len0
    · exact walk_big _ _ _ _ _ _ _ hb (by omega)
    · refine walk_small (some x) len0 cap0 z0 a1 a2 a3 w (by omega) (fun k hk => ?_)
      have hc := hcell k (by omega)
      have hc0 := hcell 0 (by omega)
      obtain ⟨b, o, sp⟩ := x
      have hsp : sp = none := by
        cases sp with
        | none => rfl
        | some s =>
          simp only [Addr.add, if_true, World.cell?] at hc0
          split at hc0 <;> simp at hc0
      subst hsp
      have hw := hwf (z0.getD k 0) (by rw [List.getD_eq_getElem?_getD, List.getElem?_eq_getElem (show k < z0.length by omega)]; exact List.getElem_mem _)
      refine ⟨b, o, rfl, ?_, ?_⟩
      · by_cases h0 : k = 0
        · subst h0; exact hc
        · simpa only [Addr.add, if_neg h0] using hc
      · generalize z0.getD k 0 = z at hw ⊢
        simp [Lit.wf, IntKind.min, IntKind.max, IntKind.signed, IntKind.bits] at hw
        omega

/-! ### THE ROW's STEP: WRITTEN OUT: LEAVE IT -/
set_option maxRecDepth 100000 in
theorem lifted (os : Os) (started : os.Started) (H : Type) (enc : TypeId × Value → H) :
    ReturnsInHanded {} Yba.checked os 3 .any (Rows.lawS6581AWholeSpec.pre6 enc Yba.prog Yba.f3 Rows.lawS6581AWholeRow.domain false) (Rows.lawS6581AWholeSpec.post enc Yba.prog Yba.f3 false true false false) := by
  refine returnsInHanded_of_change (C := Yba.checked) own started (by kernel_rfl) Yba.func3
    (ChangeSpec.witness6 (enc := enc) (C := Yba.checked) false ⟨#[], #[.slice none 0 0, .bool false, .int .i64 0, .int .i64 0], []⟩ 8 (by kernel_rfl) (by kernel_rfl) (by kernel_rfl) (by kernel_rfl)) ?_
  intro W base args ds gs before hval0 hW hcnd _
  have hval : ∀ (j : Nat) t v, Yba.f3.params[j]? = some t → args[j]? = some v → Value.okWide Yba.prog W .any base t v := hval0
  have hW' := hW
  obtain ⟨p, q, hA0, hV, rfl, hfz, hnd⟩ := hW
  have hA : DataW.TrodAll enc Yba.prog W 0 (fun _ => true) true Yba.f3.params.toList args.toList ds p := hA0
  rw [Yba.params3] at hA hval
  obtain ⟨v0, vs0, d0, ds0, p0, q0, hargs, rfl, rfl, h0, r0⟩ := trodAll_cons hA
  obtain ⟨v1, vs1, d1, ds1, p1, q1, rfl, rfl, rfl, h1, r1⟩ := trodAll_cons r0
  obtain ⟨v2, vs2, d2, ds2, p2, q2, rfl, rfl, rfl, h2, r2⟩ := trodAll_cons r1
  obtain ⟨v3, vs3, d3, ds3, p3, q3, rfl, rfl, rfl, h3, r3⟩ := trodAll_cons r2
  obtain ⟨rfl, rfl, rfl⟩ := trodAll_nil r3
  obtain rfl : args = #[v0, v1, v2, v3] := by cases args; simp_all
  obtain ⟨rfl, rfl⟩ := trodVars_none hV
  obtain ⟨a0, len0, cap0, rfl⟩ := okWide_slice Yba.underlying22 (hval 0 22 v0 rfl rfl)
  have k0 := h0
  have lt0 : ∀ x ∈ p0, x.block < W.heap.size := by obtain ⟨m, hm⟩ := k0; exact DataW.trod_lt m _ _ _ hm
  obtain ⟨z0, w0⟩ : ∃ zs, IsRow .u16 W a0 len0 cap0 zs := by
    obtain ⟨fuel, hf⟩ := h0
    rcases open_ints Yba.underlying22 Yba.underlying32 (by kernel_rfl) hf with ⟨hcs, _⟩ | ⟨x, l, c, zs, hcs, _, hl, hm, hz, _, hcell, hwz⟩
    · simp [Value.cells] at hcs
      obtain ⟨rfl, rfl, rfl⟩ := hcs
      exact ⟨[], .inl ⟨rfl, rfl, rfl, rfl⟩⟩
    · simp [Value.cells] at hcs
      obtain ⟨rfl, rfl, rfl⟩ := hcs
      exact ⟨zs, .inr ⟨_, rfl, hl, hm, by simpa using hz, hcell, hwz⟩⟩
  obtain ⟨a1, rfl, rfl, rfl⟩ := open_bool Yba.underlying4 (hval 1 4 v1 rfl rfl) h1
  obtain ⟨a2, rfl, rfl, rfl, w2⟩ := open_int Yba.underlying2 (hval 2 2 v2 rfl rfl) h2
  obtain ⟨a3, rfl, rfl, rfl, w3⟩ := open_int Yba.underlying2 (hval 3 2 v3 rfl rfl) h3
  clear hA0 hval0
  refine (walk a0 len0 cap0 z0 a1 a2 a3 W w0 w2 w3).mono fun e W' ⟨he, bel⟩ => ?_
  subst he
  exact ⟨_, rfl, _, _, _, [], _, [], hW', trodAll_mk1 (shut_bool Yba.underlying4 _), (trodAll_cons_mk (Below.trod laidOut (by kernel_rfl) (of_decide_eq_true (by kernel_rfl)) k0 bel lt0) (trodAll_cons_mk (shut_bool Yba.underlying4 _) (trodAll_cons_mk (shut_int Yba.underlying2 w2) (trodAll_cons_mk (shut_int Yba.underlying2 w3) trodAll_mk0)))), rfl, bel.frame _, fun h => by cases h⟩

theorem over : Rows.lawS6581AWholeRow.holds Yba.pinned (OpenSpec.ofChange Rows.lawS6581AWholeSpec) :=
  OpenClaim.holds_of_wide 3 Yba.f3 rfl rfl rfl rfl rfl rfl rfl ⟨rfl, rfl, rfl, rfl, rfl⟩ rfl rfl rfl rfl rfl (by kernel_rfl) Yba.func3 (by kernel_rfl)
    (of_decide_eq_true (by kernel_rfl)) (by unfold Func.isWrapper; first | (rw [if_pos (by decide +kernel)]; kernel_rfl) | (rw [if_neg (by decide +kernel)]; exact ⟨rfl, rfl⟩))
    (fun os started H enc _ => lifted os started H enc)

/-- ████ THE STATEMENT ████ -/
theorem proved : Rows.LawS6581AWholeSaid := over
end Go.Proofs.Ybulkefgq.lawS6581AWhole
