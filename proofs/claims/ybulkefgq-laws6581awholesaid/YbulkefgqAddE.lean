/-
  The walk of (*pagedList[int64]).add (11).
-/
import Derived.Test.YbulkefgqPut
import Derived.Deep.QuietTactic
import Derived.BigQuiet
import Derived.Deep.RegionLaw
import Derived.Deep.DeepCutAuto
import Derived.WalkSpells
namespace Go.Proofs.Ybulkefgq
open Go.RowKit

/-- The facts that the append's law asks of the element types. -/
theorem info2 : Yba.prog.info? 2 = some Yba.t2 := by kernel_rfl
theorem zero2 : Yba.t2.zero = some (.int .i64 0) := by kernel_rfl
theorem info_size2 : Yba.t2.size = 1 := by kernel_rfl
theorem info_bytes2 : Yba.t2.bytes = 8 := by kernel_rfl
theorem info31 : Yba.prog.info? 31 = some Yba.t31 := by kernel_rfl
theorem zero31 : Yba.t31.zero = some (.slice none 0 0) := by kernel_rfl
theorem info_size31 : Yba.t31.size = 1 := by kernel_rfl
theorem info_bytes31 : Yba.t31.bytes = 24 := by kernel_rfl
theorem toHid {p : Prop} (h : p) : Hid p := h
def made2 : Array Value := madeCells #[.int .i64 0] 4096
theorem made2_size : made2.size = 4096 := size_madeCells _ _
theorem make2 (W : World) : (Instr.makeSlice 31 (.int .i64 0) (.int .i64 4096)).run Yba.prog W = .ok (.slice (some ⟨W.heap.size, 0, none⟩) 0 4096) (W.alloc (.cells made2 2)) := by
  have := run_make (P := Yba.prog) W 31 2 Yba.t2 (.int .i64 0) Yba.underlying31 info2 zero2 .i64 .i64 0 4096 (by decide) (by decide) (by rw [info_bytes2]; decide) (by decide)
  rw [info_size2] at this
  exact this

theorem grownBy_drewN (a : World) (m : Nat) (row : Option Nat) : a.grownBy (a.drewN m) row := ⟨rfl, rfl, rfl, Nat.le_refl _, fun _ _ _ => rfl⟩

/-- What 'add' leaves. -/
def AddPost (base e te sz rb off : Nat) (E : List (List Value)) (x : List Value) (hdr : Value) (pv : List Value) (w w' : World) : Prop :=
  ∃ hdr' pv', PL w' base e te sz rb off (E ++ [x]) hdr' pv' ∧ pv'.length = E.length / 4096 + 1 ∧ Fr rb off (inF hdr pv) w w' ∧ ∀ k, inF hdr' pv' k → inF hdr pv k ∨ w.heap.size ≤ k
/-- What its first half leaves: the page for the item is there. -/
def MidPost (base e te sz rb off : Nat) (E : List (List Value)) (hdr : Value) (pv : List Value) (w w' : World) : Prop :=
  ∃ hdr' pv', PL w' base e te sz rb off E hdr' pv' ∧ pv'.length = E.length / 4096 + 1 ∧ Fr rb off (inF hdr pv) w w' ∧ ∀ k, inF hdr' pv' k → inF hdr pv k ∨ w.heap.size ≤ k

theorem mid_same {base e te sz rb off : Nat} {E : List (List Value)} {hdr : Value} {pv : List Value} {w W : World} (h : PL w base e te sz rb off E hdr pv) (hg : w.grownBy W none) (hl : pv.length = E.length / 4096 + 1) :
    MidPost base e te sz rb off E hdr pv w W :=
  ⟨hdr, pv, h.grown hg, hl, Fr.grown hg h.rb_lt (by simp) (by simp), fun _ hk => Or.inl hk⟩
theorem mid_push {base e te sz rb off : Nat} {E : List (List Value)} {hdr : Value} {pv : List Value} {w W : World} (h : PL w base e te sz rb off E hdr pv) (hgW : w.grownBy W none) (hfull : E.length = 4096 * pv.length)
    {room : Value} (hroom : W.ownsRow base e sz room 0 []) (hfr : ∀ k, room.ownBlock = some k → w.heap.size ≤ k) (hrn : room.ownBlock = none → pv = []) {w1 : World} {g cap : Nat}
    (hown : w1.ownsRow base te 1 (.slice (some ⟨g, 0, none⟩) (pv.length + 1) cap) (pv.length + 1) (pv ++ [room])) (hg : W.grownBy w1 hdr.ownBlock) (hat : hdr.ownBlock = some g ∨ g = W.heap.size) :
    MidPost base e te sz rb off E hdr pv w (w1.setCell ⟨rb, off, none⟩ (.slice (some ⟨g, 0, none⟩) (pv.length + 1) cap)) := by
  obtain ⟨h1, h2, h3⟩ := (h.grown hgW).push hfull hroom (fun k hk hi => by have := (h.fp_lt hi).2; have := hfr k hk; omega) hrn hown hg hat
  refine ⟨_, _, h1, by rw [List.length_append, List.length_singleton]; omega, (Fr.grown hgW h.rb_lt (by simp) (by simp) : Fr rb off (inF hdr pv) w W).trans h2 (fun j hj => Or.inl hj), fun k hk => ?_⟩
  have := hgW.size
  rcases h3 k hk with h4 | h4 | h4
  · exact Or.inl h4
  · exact Or.inr (hfr k h4)
  · exact Or.inr (by omega)
theorem mid_put {base e te sz rb off : Nat} {E : List (List Value)} {hdr0 : Value} {pv0 : List Value} {w0 : World} {hdr : Value} {pv : List Value} {w W : World}
    (h : PL w base e te sz rb off E hdr pv) (hl : pv.length = E.length / 4096 + 1) (hf : Fr rb off (inF hdr0 pv0) w0 w) (hfp : ∀ k, inF hdr pv k → inF hdr0 pv0 k ∨ w0.heap.size ≤ k)
    (hgW : w.grownBy W none) {v : Value} (hv : pv[E.length / 4096]? = some v) {x : List Value} (hx : x.length = sz) {pg pc : Nat} (hh : hdr = .slice (some ⟨pg, 0, none⟩) pv.length pc)
    {w1 : World} {r g cap : Nat} (hr : r = (chunk (E.length / 4096) E).length)
    (hown : w1.ownsRow base e sz (.slice (some ⟨g, 0, none⟩) (r + 1) cap) (r + 1) ((chunk (E.length / 4096) E).flatten ++ x)) (hg : W.grownBy w1 v.ownBlock) (hat : v.ownBlock = some g ∨ g = W.heap.size) :
    AddPost base e te sz rb off E x hdr0 pv0 w0 ((w1.setCell ⟨pg, E.length / 4096, none⟩ (.slice (some ⟨g, 0, none⟩) (r + 1) cap)).setCell ⟨rb, off + 1, none⟩ (.int .i64 (E.length + 1))) := by
  obtain ⟨h1, h2, h3⟩ := (h.grown hgW).put hv hx hh hr hown hg hat
  refine ⟨_, _, h1, by rw [List.length_set]; exact hl, ((hf.trans (Fr.grown hgW h.rb_lt (by simp) (by simp) : Fr rb off (inF hdr0 pv0) w W) (fun j hj => Or.inl hj)).trans h2 (fun j hj => hfp j hj)), fun k hk => ?_⟩
  have := hgW.size
  have := hf.size
  rcases h3 k hk with h4 | h4
  · exact hfp k h4
  · exact Or.inr (by omega)

theorem own_form {w : World} {base e size n : Nat} {v : Value} {xs : List Value} (h : w.ownsRow base e size v n xs) : ∃ ao c, v = .slice ao n c ∧ (ao = none → n = 0 ∧ c = 0) := by
  rcases h.2 with ⟨rfl, rfl⟩ | ⟨g, cap, cur, rfl, _⟩
  · exact ⟨none, 0, rfl, fun _ => ⟨rfl, rfl⟩⟩
  · exact ⟨some ⟨g, 0, none⟩, cap, rfl, fun h => by cases h⟩
set_option maxRecDepth 100000 in
set_option maxHeartbeats 1000000 in
theorem addE {base rb : Nat} {E : List (List Value)} {hdr : Value} {pv : List Value} (x : Int) (w : World)
    (h : PL w base 2 31 1 rb 0 E hdr pv) (hn : E.length ≤ 1048576) (hnp : pv.length = (E.length + 4095) / 4096) :
    Calls Yba.prog 11 #[.pointer (some ⟨rb, 0, none⟩), .int .i64 x] w fun e w' => e = .returned (.tuple #[]) ∧ AddPost base 2 31 1 rb 0 E [.int .i64 x] hdr pv w w' := by
  obtain ⟨ao, pc, rfl, hnil0⟩ := own_form h.own
  clear hnil0
  have nc := h.nc
  have hc := h.hc
  have hz := h.hz
  have hrb := h.rb_lt
  have hlow := h.low
  have hbase := h.baseLe
  obtain ⟨p, hp⟩ : ∃ p, p = E.length / 4096 := ⟨_, rfl⟩
  obtain ⟨r, hr⟩ : ∃ r, r = E.length % 4096 := ⟨_, rfl⟩
  have e1 : ((E.length : Int) / 4096) = (p : Int) := by omega
  have e2 : ((E.length : Int) % 4096) = (r : Int) := by omega
  have E1 := toHid e1
  have E2 := toHid e2
  have H := toHid h
  have HP := toHid hp
  have HR := toHid hr
  have HN := toHid hnp
  have hmk := make2
  simp only [Nat.zero_add] at nc
  clear h e1 e2
  have hcase : (r ≠ 0 ∧ pv.length = p + 1) ∨ (r = 0 ∧ p = 0 ∧ pv.length = 0) ∨ (r = 0 ∧ 0 < p ∧ pv.length = p) := by omega
  clear hp hr hnp
  go_enter Yba.func11, Yba.ntmps11
  go_wp2
  go_quiet (fail)
  rw [E1.out, E2.out]
  go_upto_if 23 with (fail)
  go_cut [] from 7 (fun wc => MidPost base 2 31 1 rb 0 E (.slice ao pv.length pc) pv w wc)
  case first =>
    rcases hcase with ⟨hr0, hl⟩ | ⟨hr0, hp0, hl⟩ | ⟨hr0, hp0, hl⟩
    · have eb : ((p : Int) == (pv.length : Int)) = false := by simp; omega
      go_wp2
      go_meet
      case rel => exact mid_same H.out (grownBy_drewN w nq none) (by rw [← HP.out]; exact hl)
    · have eb : ((p : Int) == (pv.length : Int)) = true := by simp; omega
      have hle : (p : Int) ≤ 0 := by omega
      have hlb : pv.length ≤ 0 := by omega
      have HR0 := toHid hr0
      have HP0 := toHid hp0
      have HL := toHid hl
      clear hr0 hp0 hl
      go_wp2_with (refine wpList_append_lies _ rfl (.tmp 31) (.tmp 33) 23 rfl base 31 Yba.t31 (.slice none 0 0) 1 24 Yba.underlying23 info31 zero31 info_size31 info_bytes31 rfl (by decide) (.slice ao pv.length pc) pv.length pv rfl (by exact H.out.own.alloc _) ⟨w.heap.size, 0, none⟩ 1 1 [.slice none 0 0] rfl rfl (by exact World.news_of_block (MapKept.heap_alloc w _).1) (by simp [Value.oneCell']) (by decide) (by unfold maxLen; omega) (by omega) (by simp; omega) _ rfl ?_; intro g cap w1 hown hgrow hat hlt; have hrow := H.out.own.lt; have sc := hgrow.cell (a := ⟨rb, 0, none⟩) (World.cell?_alloc_lt _ _ _ (by exact hrb) |>.trans hc) (fun e1 => by have := (hrow rb e1.symm).1; omega); have sz := (hgrow.frozen_far ⟨rb, 0, none⟩ (by simp; omega) (fun e1 => by have := (hrow rb e1.symm).1; omega)).trans ((frozen?_alloc_cells _ _ _ _).trans hz); have HM := toHid (mid_push H.out (grownBy_trans (grownBy_drewN w nq none) (World.grownBy_alloc _ _ _)) (by have := HL.out; have := HP.out; have := HR.out; have := HR0.out; omega) (World.ownsRow_nil _ _ _ _) (by simp [Value.ownBlock]) (fun _ => List.eq_nil_of_length_eq_zero HL.out) hown hgrow hat); clear hrow hown hgrow hat hlt)
      go_meet
      case rel => exact HM.out
    · have eb : ((p : Int) == (pv.length : Int)) = true := by simp; omega
      have hle : 0 < (p : Int) := by omega
      have hlb : pv.length ≤ 257 := by have := HN.out; omega
      have hcm : ∀ m, ((w.drewN m).alloc (.cells made2 2)).cell? ⟨rb, 0, none⟩ = some (.slice ao pv.length pc) := fun m => (World.cell?_alloc_lt _ _ _ (by exact hrb)).trans hc
      have HR0 := toHid hr0
      have HL := toHid hl
      have hne : 0 < pv.length := by omega
      clear hr0 hl
      go_wp2_with (refine wpList_append_lies _ rfl (.tmp 31) (.tmp 33) 23 rfl base 31 Yba.t31 (.slice none 0 0) 1 24 Yba.underlying23 info31 zero31 info_size31 info_bytes31 rfl (by decide) (.slice ao pv.length pc) pv.length pv rfl (by exact (H.out.own.alloc _).alloc _) ⟨w.heap.size + 1, 0, none⟩ 1 1 [.slice (some ⟨w.heap.size, 0, none⟩) 0 4096] rfl rfl (by exact World.news_of_block (by have := (MapKept.heap_alloc ((w.drewN nq).alloc (.cells made2 2)) (.cells #[.slice (some ⟨w.heap.size, 0, none⟩) 0 4096] 31)).1; simpa using this)) (by simp [Value.oneCell']) (by decide) (by unfold maxLen; omega) (by omega) (by simp; omega) _ rfl ?_; intro g cap w1 hown hgrow hat hlt; have hrow := H.out.own.lt; have sc := hgrow.cell (a := ⟨rb, 0, none⟩) ((World.cell?_alloc_lt _ _ _ (by simp; omega)).trans ((World.cell?_alloc_lt _ _ _ (by exact hrb)).trans hc)) (fun e1 => by have := (hrow rb e1.symm).1; omega); have sz := (hgrow.frozen_far ⟨rb, 0, none⟩ (by simp; omega) (fun e1 => by have := (hrow rb e1.symm).1; omega)).trans ((frozen?_alloc_cells _ _ _ _).trans ((frozen?_alloc_cells _ _ _ _).trans hz)); have HM := toHid (mid_push H.out (grownBy_trans (grownBy_drewN w nq none) (grownBy_trans (World.grownBy_alloc _ _ _) (World.grownBy_alloc _ _ _))) (by have := HL.out; have := HP.out; have := HR.out; have := HR0.out; omega) (World.ownsRow.alloc (World.ownsRow_made (w.drewN nq) made2 4096 (by simpa using hbase) (by decide) (by rw [made2_size])) _) (by simp [Value.ownBlock]) (by simp [Value.ownBlock]) hown hgrow hat); clear hrow hown hgrow hat hlt)
      go_meet
      case rel => exact HM.out
  case rest =>
    clear hcase hmk nc hc hz hrb
    obtain ⟨hdr', pv', h', hl', hf', hfp'⟩ := hcut
    obtain ⟨pg, pc', rfl, hpg1, hpg2⟩ := h'.own.form (by omega)
    have hpp : p < pv'.length := by have := HP.out; omega
    obtain ⟨v, hv⟩ : ∃ v, pv'[p]? = some v := ⟨_, List.getElem?_eq_getElem hpp⟩
    have hpage := h'.page p v hv
    have hcl : (chunk p E).length = r := by rw [chunk_length]; have := HP.out; have := HR.out; omega
    have hr4 : r < 4096 := by have := HR.out; omega
    rw [hcl] at hpage
    have hc := h'.hc
    have nc := h'.nc
    have nz := h'.nz
    have hrb := h'.rb_lt
    have hbase' := h'.baseLe
    have pcell : wc.cell? ⟨pg, p, none⟩ = some v := by rw [h'.own.cellAt _ (by omega)]; exact hv
    have pz : wc.frozen? ⟨pg, p, none⟩ = false := h'.own.frozenAt _
    have hd0 := h'.dist0 p v hv
    simp only [Nat.zero_add] at nc nz
    have hpl : (p : Int) < (pv'.length : Int) := by omega
    have H' := toHid h'
    have HL' := toHid hl'
    have HF' := toHid hf'
    have HFP' := toHid hfp'
    have HCL := toHid hcl
    have HV := toHid hv
    have HPG := toHid hpage
    have ho := hpage.2
    have hlt2 := hpage.lt
    clear h' hl' hf' hfp' hcl hv H HN hpage
    rcases ho with ⟨rfl, hr0⟩ | ⟨q, qc, cur, rfl, hq1, _, hrqc, _⟩
    · subst hr0
      rw [show (((0 : Nat) : Int)) = (0 : Int) from rfl]
      clear hd0 hlt2
      have ka : (wc.alloc (.cells #[.int .i64 x] 2)).cell? ⟨rb, 0, none⟩ = some (.slice (some ⟨pg, 0, none⟩) pv'.length pc') := by rw [World.cell?_alloc_lt _ _ _ (by exact hrb)]; exact hc
      have kb : (wc.alloc (.cells #[.int .i64 x] 2)).cell? ⟨pg, p, none⟩ = some (.slice none 0 0) := by rw [World.cell?_alloc_lt _ _ _ (by exact hpg2)]; exact pcell
      have kn : (wc.alloc (.cells #[.int .i64 x] 2)).cell? ⟨rb, 1, none⟩ = some (.int .i64 E.length) := by rw [World.cell?_alloc_lt _ _ _ (by exact hrb)]; exact nc
      go_wp2
      go_cut [] from 7 (fun wd => wd.cell? ⟨rb, 1, none⟩ = some (.int .i64 E.length) ∧ wd.frozen? ⟨rb, 1, none⟩ = false ∧ AddPost base 2 31 1 rb 0 E [.int .i64 x] (.slice ao pv.length pc) pv w (wd.setCell ⟨rb, 1, none⟩ (.int .i64 (E.length + 1))))
      case first =>
        go_region_law (first | (refine step_append_lies _ rfl (.tmp 50) (.tmp 52) 31 rfl base 2 Yba.t2 (.int .i64 0) 1 8 Yba.underlying31 info2 zero2 info_size2 info_bytes2 rfl (by decide) (.slice none 0 0) 0 (chunk p E).flatten rfl (by exact HPG.out.alloc _) ⟨wc.heap.size, 0, none⟩ 1 1 [.int .i64 x] rfl rfl (by exact World.news_of_block (MapKept.heap_alloc wc _).1) (by simp [Value.oneCell']) (by decide) (by unfold maxLen; omega) (by omega) (by simp; omega) _ rfl ?_; intro g cap w1 hown hgrow hat hlt; have sa := hgrow.cell (show ((wc.alloc (.cells #[.int .i64 x] 2)).drew).cell? _ = _ from ka) (by simp [Value.ownBlock]); have sb := hgrow.cell (show ((wc.alloc (.cells #[.int .i64 x] 2)).drew).cell? _ = _ from kb) (by simp [Value.ownBlock]); have sz := (hgrow.frozen_far ⟨pg, p, none⟩ (by simp; omega) (by simp [Value.ownBlock])).trans ((frozen?_alloc_cells _ _ _ _).trans pz); have sn := hgrow.cell (show ((wc.alloc (.cells #[.int .i64 x] 2)).drew).cell? _ = _ from kn) (by simp [Value.ownBlock]); have sf := (hgrow.frozen_far ⟨rb, 1, none⟩ (by simp; omega) (by simp [Value.ownBlock])).trans ((frozen?_alloc_cells _ _ _ _).trans nz); have HA := toHid (mid_put (x := [.int .i64 x]) (r := 0) H'.out HL'.out HF'.out HFP'.out (by exact grownBy_trans (World.grownBy_alloc wc _ none) (grownBy_drew _ none)) (by rw [← HP.out]; exact HV.out) rfl rfl (by rw [← HP.out]; exact HCL.out.symm) (by rw [← HP.out]; exact hown) hgrow hat); clear hown hgrow hat hlt))
        all_goals
          go_wp2
          go_meet
          case rel =>
            rw [← HP.out] at HA
            exact ⟨(World.cell?_setCell_other _ _ _ _ (by simp <;> omega)).trans sn, (World.frozen?_setCell _ _ _ _).trans sf, HA.out⟩
      case rest =>
        obtain ⟨d1, d2, d3⟩ := hcut
        have D3 := toHid d3
        clear d3
        go_wp2
        go_end0
        exact ⟨rfl, D3.out⟩
    · have hqpg : q ≠ pg := fun e1 => hd0 (by rw [e1]; rfl)
      have hql := (hlt2 q rfl).2
      clear hd0 hlt2
      have ka : (wc.alloc (.cells #[.int .i64 x] 2)).cell? ⟨rb, 0, none⟩ = some (.slice (some ⟨pg, 0, none⟩) pv'.length pc') := by rw [World.cell?_alloc_lt _ _ _ (by exact hrb)]; exact hc
      have kb : (wc.alloc (.cells #[.int .i64 x] 2)).cell? ⟨pg, p, none⟩ = some (.slice (some ⟨q, 0, none⟩) r qc) := by rw [World.cell?_alloc_lt _ _ _ (by exact hpg2)]; exact pcell
      have kn : (wc.alloc (.cells #[.int .i64 x] 2)).cell? ⟨rb, 1, none⟩ = some (.int .i64 E.length) := by rw [World.cell?_alloc_lt _ _ _ (by exact hrb)]; exact nc
      go_wp2
      go_cut [] from 7 (fun wd => wd.cell? ⟨rb, 1, none⟩ = some (.int .i64 E.length) ∧ wd.frozen? ⟨rb, 1, none⟩ = false ∧ AddPost base 2 31 1 rb 0 E [.int .i64 x] (.slice ao pv.length pc) pv w (wd.setCell ⟨rb, 1, none⟩ (.int .i64 (E.length + 1))))
      case first =>
        go_region_law (first | (refine step_append_lies _ rfl (.tmp 50) (.tmp 52) 31 rfl base 2 Yba.t2 (.int .i64 0) 1 8 Yba.underlying31 info2 zero2 info_size2 info_bytes2 rfl (by decide) (.slice (some ⟨q, 0, none⟩) r qc) r (chunk p E).flatten rfl (by exact HPG.out.alloc _) ⟨wc.heap.size, 0, none⟩ 1 1 [.int .i64 x] rfl rfl (by exact World.news_of_block (MapKept.heap_alloc wc _).1) (by simp [Value.oneCell']) (by decide) (by unfold maxLen; omega) (by omega) (by simp; omega) _ rfl ?_; intro g cap w1 hown hgrow hat hlt; have sa := hgrow.cell (show ((wc.alloc (.cells #[.int .i64 x] 2)).drew).cell? _ = _ from ka) (by simp [Value.ownBlock]; omega); have sb := hgrow.cell (show ((wc.alloc (.cells #[.int .i64 x] 2)).drew).cell? _ = _ from kb) (by simp [Value.ownBlock]; omega); have sz := (hgrow.frozen_far ⟨pg, p, none⟩ (by simp; omega) (by simp [Value.ownBlock]; omega)).trans ((frozen?_alloc_cells _ _ _ _).trans pz); have sn := hgrow.cell (show ((wc.alloc (.cells #[.int .i64 x] 2)).drew).cell? _ = _ from kn) (by simp [Value.ownBlock]; omega); have sf := (hgrow.frozen_far ⟨rb, 1, none⟩ (by simp; omega) (by simp [Value.ownBlock]; omega)).trans ((frozen?_alloc_cells _ _ _ _).trans nz); have HA := toHid (mid_put (x := [.int .i64 x]) (r := r) H'.out HL'.out HF'.out HFP'.out (by exact grownBy_trans (World.grownBy_alloc wc _ none) (grownBy_drew _ none)) (by rw [← HP.out]; exact HV.out) rfl rfl (by rw [← HP.out]; exact HCL.out.symm) (by rw [← HP.out]; exact hown) hgrow hat); clear hown hgrow hat hlt))
        all_goals
          go_wp2
          go_meet
          case rel =>
            rw [← HP.out] at HA
            exact ⟨(World.cell?_setCell_other _ _ _ _ (by simp <;> omega)).trans sn, (World.frozen?_setCell _ _ _ _).trans sf, HA.out⟩
      case rest =>
        obtain ⟨d1, d2, d3⟩ := hcut
        have D3 := toHid d3
        clear d3
        go_wp2
        go_end0
        exact ⟨rfl, D3.out⟩
end Go.Proofs.Ybulkefgq
