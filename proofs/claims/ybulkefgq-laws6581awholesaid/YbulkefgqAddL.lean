/-
  The walk of (*pagedList[Locator]).add (12).
-/
import Derived.Test.YbulkefgqAddE
import Derived.Test.YbulkefgqOrders
namespace Go.Proofs.Ybulkefgq
open Go.RowKit

/-- A locator's cells: its size alone is not zero. -/
def locA (s : Int) : Array Value := #[.int .u8 0, .int .u8 0, .int .u8 0, .int .u8 0, .int .u8 0, .int .u8 0, .int .u8 0, .int .u8 0, .int .u8 0, .int .u8 0, .int .u8 0, .int .u8 0, .int .u8 0, .int .u8 0, .int .u8 0, .int .u8 0, .int .i64 s, .slice none 0 0]
theorem locA_one (s : Int) : ∀ u ∈ (locA s).toList, u.oneCell' = true := by
  intro u hu
  simp only [locA, List.mem_cons, List.not_mem_nil, or_false] at hu
  rcases hu with rfl | rfl | rfl | rfl | rfl | rfl | rfl | rfl | rfl | rfl | rfl | rfl | rfl | rfl | rfl | rfl | rfl | rfl <;> rfl
theorem info37 : Yba.prog.info? 37 = some Yba.t37 := by kernel_rfl
theorem zero37 : Yba.t37.zero = some (.agg (locA 0)) := by kernel_rfl
theorem info_size37 : Yba.t37.size = 18 := by kernel_rfl
theorem info_bytes37 : Yba.t37.bytes = 48 := by kernel_rfl
theorem info53 : Yba.prog.info? 53 = some Yba.t53 := by kernel_rfl
theorem zero53 : Yba.t53.zero = some (.slice none 0 0) := by kernel_rfl
theorem info_size53 : Yba.t53.size = 1 := by kernel_rfl
theorem info_bytes53 : Yba.t53.bytes = 24 := by kernel_rfl
def made37 : Array Value := madeCells (locA 0) (4096 * 18)
theorem made37_size : made37.size = 4096 * 18 := size_madeCells _ _
theorem make37 (W : World) : (Instr.makeSlice 53 (.int .i64 0) (.int .i64 4096)).run Yba.prog W = .ok (.slice (some ⟨W.heap.size, 0, none⟩) 0 4096) (W.alloc (.cells made37 37)) := by
  have := run_make (P := Yba.prog) W 53 37 Yba.t37 (.agg (locA 0)) Yba.underlying53 info37 zero37 .i64 .i64 0 4096 (by decide) (by decide) (by rw [info_bytes37]; decide) (by decide)
  rw [info_size37] at this
  exact this
theorem fold_set : ∀ (l pre post : List Value), post.length = l.length → List.foldl (fun cs x => cs.setIfInBounds x.snd x.fst) (pre ++ post).toArray (l.zipIdx pre.length) = (pre ++ l).toArray
  | [], pre, post, h => by
    obtain rfl : post = [] := List.eq_nil_of_length_eq_zero (by simpa using h)
    rfl
  | x :: r, pre, post, h => by
    obtain ⟨y, post', rfl⟩ : ∃ y post', post = y :: post' := by
      cases post with
      | nil => simp at h
      | cons y q => exact ⟨y, q, rfl⟩
    have ih := fold_set r (pre ++ [x]) post' (by simpa using h)
    rw [List.zipIdx_cons, List.foldl_cons]
    have e1 : (pre ++ y :: post').toArray.setIfInBounds pre.length x = ((pre ++ [x]) ++ post').toArray := by simp
    rw [e1]
    have e2 : (pre ++ [x]).length = pre.length + 1 := by simp
    rw [e2] at ih
    rw [ih]
    simp
theorem fold_news (news : List Value) (h : news.length = 18) : List.foldl (fun cs x => cs.setIfInBounds x.snd x.fst) #[Value.int IntKind.u8 0, Value.int IntKind.u8 0, Value.int IntKind.u8 0, Value.int IntKind.u8 0, Value.int IntKind.u8 0, Value.int IntKind.u8 0, Value.int IntKind.u8 0, Value.int IntKind.u8 0, Value.int IntKind.u8 0, Value.int IntKind.u8 0, Value.int IntKind.u8 0, Value.int IntKind.u8 0, Value.int IntKind.u8 0, Value.int IntKind.u8 0, Value.int IntKind.u8 0, Value.int IntKind.u8 0, Value.int IntKind.i64 0, Value.slice none 0 0] news.zipIdx = news.toArray :=
  fold_set news [] [Value.int IntKind.u8 0, Value.int IntKind.u8 0, Value.int IntKind.u8 0, Value.int IntKind.u8 0, Value.int IntKind.u8 0, Value.int IntKind.u8 0, Value.int IntKind.u8 0, Value.int IntKind.u8 0, Value.int IntKind.u8 0, Value.int IntKind.u8 0, Value.int IntKind.u8 0, Value.int IntKind.u8 0, Value.int IntKind.u8 0, Value.int IntKind.u8 0, Value.int IntKind.u8 0, Value.int IntKind.u8 0, Value.int IntKind.i64 0, Value.slice none 0 0] (by rw [h]; rfl)
/-- The first half where a page was pushed: that page. -/
def MidPostR (base e te sz rb off : Nat) (E : List (List Value)) (room hdr : Value) (pv : List Value) (w w' : World) : Prop :=
  ∃ hdr' pv', PL w' base e te sz rb off E hdr' pv' ∧ pv'.length = E.length / 4096 + 1 ∧ Fr rb off (inF hdr pv) w w' ∧ (∀ k, inF hdr' pv' k → inF hdr pv k ∨ w.heap.size ≤ k) ∧ pv'[E.length / 4096]? = some room
theorem midR_push {base e te sz rb off : Nat} {E : List (List Value)} {hdr : Value} {pv : List Value} {w W : World} (h : PL w base e te sz rb off E hdr pv) (hgW : w.grownBy W none) (hfull : E.length = 4096 * pv.length)
    {room : Value} (hroom : W.ownsRow base e sz room 0 []) (hfr : ∀ k, room.ownBlock = some k → w.heap.size ≤ k) (hrn : room.ownBlock = none → pv = []) {w1 : World} {g cap : Nat}
    (hown : w1.ownsRow base te 1 (.slice (some ⟨g, 0, none⟩) (pv.length + 1) cap) (pv.length + 1) (pv ++ [room])) (hg : W.grownBy w1 hdr.ownBlock) (hat : hdr.ownBlock = some g ∨ g = W.heap.size) :
    MidPostR base e te sz rb off E room hdr pv w (w1.setCell ⟨rb, off, none⟩ (.slice (some ⟨g, 0, none⟩) (pv.length + 1) cap)) := by
  obtain ⟨h1, h2, h3⟩ := (h.grown hgW).push hfull hroom (fun k hk hi => by have := (h.fp_lt hi).2; have := hfr k hk; omega) hrn hown hg hat
  refine ⟨_, _, h1, by rw [List.length_append, List.length_singleton]; omega, (Fr.grown hgW h.rb_lt (by simp) (by simp) : Fr rb off (inF hdr pv) w W).trans h2 (fun j hj => Or.inl hj), fun k hk => ?_, ?_⟩
  · have := hgW.size
    rcases h3 k hk with h4 | h4 | h4
    · exact Or.inl h4
    · exact Or.inr (hfr k h4)
    · exact Or.inr (by omega)
  · have hi : E.length / 4096 = pv.length := by omega
    rw [hi, List.getElem?_append_right (Nat.le_refl _), Nat.sub_self]
    rfl
/-- The first half, and that the page for the item is no nil slice where the list was not empty. -/
def MidPostS (base e te sz rb off : Nat) (E : List (List Value)) (hdr : Value) (pv : List Value) (w w' : World) : Prop :=
  ∃ hdr' pv', PL w' base e te sz rb off E hdr' pv' ∧ pv'.length = E.length / 4096 + 1 ∧ Fr rb off (inF hdr pv) w w' ∧ (∀ k, inF hdr' pv' k → inF hdr pv k ∨ w.heap.size ≤ k) ∧ ∀ v, pv'[E.length / 4096]? = some v → 0 < E.length → v ≠ .slice none 0 0
theorem midS_same {base e te sz rb off : Nat} {E : List (List Value)} {hdr : Value} {pv : List Value} {w W : World} (h : PL w base e te sz rb off E hdr pv) (hg : w.grownBy W none) (hl : pv.length = E.length / 4096 + 1) (hr : E.length % 4096 ≠ 0) :
    MidPostS base e te sz rb off E hdr pv w W := by
  refine ⟨hdr, pv, h.grown hg, hl, Fr.grown hg h.rb_lt (by simp) (by simp), fun _ hk => Or.inl hk, fun v hv _ e1 => ?_⟩
  have ho := h.page _ v hv
  obtain ⟨g, c, e2, _⟩ := ho.form (by rw [chunk_length]; omega)
  rw [e1] at e2; cases e2
theorem midS_push {base e te sz rb off : Nat} {E : List (List Value)} {hdr : Value} {pv : List Value} {w W : World} (h : PL w base e te sz rb off E hdr pv) (hgW : w.grownBy W none) (hfull : E.length = 4096 * pv.length)
    {room : Value} (hroom : W.ownsRow base e sz room 0 []) (hfr : ∀ k, room.ownBlock = some k → w.heap.size ≤ k) (hrn : room.ownBlock = none → pv = []) {w1 : World} {g cap : Nat}
    (hown : w1.ownsRow base te 1 (.slice (some ⟨g, 0, none⟩) (pv.length + 1) cap) (pv.length + 1) (pv ++ [room])) (hg : W.grownBy w1 hdr.ownBlock) (hat : hdr.ownBlock = some g ∨ g = W.heap.size) :
    MidPostS base e te sz rb off E hdr pv w (w1.setCell ⟨rb, off, none⟩ (.slice (some ⟨g, 0, none⟩) (pv.length + 1) cap)) := by
  obtain ⟨h1, h2, h3⟩ := (h.grown hgW).push hfull hroom (fun k hk hi => by have := (h.fp_lt hi).2; have := hfr k hk; omega) hrn hown hg hat
  refine ⟨_, _, h1, by rw [List.length_append, List.length_singleton]; omega, (Fr.grown hgW h.rb_lt (by simp) (by simp) : Fr rb off (inF hdr pv) w W).trans h2 (fun j hj => Or.inl hj), fun k hk => ?_, fun v hv hpos e1 => ?_⟩
  · have := hgW.size
    rcases h3 k hk with h4 | h4 | h4
    · exact Or.inl h4
    · exact Or.inr (hfr k h4)
    · exact Or.inr (by omega)
  · have hi : E.length / 4096 = pv.length := by omega
    rw [hi, List.getElem?_append_right (Nat.le_refl _), Nat.sub_self] at hv
    simp at hv
    subst hv
    have hpv := hrn (by rw [e1]; rfl)
    subst hpv
    simp only [List.length_nil, Nat.mul_zero] at hfull
    omega
theorem addpost_pre {base e te sz rb off : Nat} {E : List (List Value)} {x : List Value} {hdr : Value} {pv : List Value} {w0 w w' : World} (hg : w0.grownBy w none) (h : AddPost base e te sz rb off E x hdr pv w w') (hrb : rb < w0.heap.size) : AddPost base e te sz rb off E x hdr pv w0 w' := by
  obtain ⟨hdr', pv', h1, h2, h3, h4⟩ := h
  refine ⟨hdr', pv', h1, h2, (Fr.grown hg hrb (by simp) (by simp) : Fr rb off (inF hdr pv) w0 w).trans h3 (fun j hj => Or.inl hj), fun k hk => ?_⟩
  have := hg.size
  rcases h4 k hk with h5 | h5
  · exact Or.inl h5
  · exact Or.inr (by omega)


set_option maxRecDepth 100000 in
set_option maxHeartbeats 4000000 in
theorem addL_some {base rb : Nat} {E : List (List Value)} {hdr : Value} {pv : List Value} (news : List Value) (hnl : news.length = 18) (hno : ∀ u ∈ news, u.oneCell' = true) (w0 : World)
    (h0 : PL w0 base 37 53 18 rb 2 E hdr pv) (hn : E.length ≤ 1048576) (hnp : pv.length = (E.length + 4095) / 4096) (hcond : 0 < E.length) :
    Calls Yba.prog 12 #[.pointer (some ⟨rb, 2, none⟩), .agg news.toArray] w0 fun e w' => e = .returned (.tuple #[]) ∧ AddPost base 37 53 18 rb 2 E news hdr pv w0 w' := by
  obtain ⟨ao, pc, rfl, hnil0⟩ := own_form h0.own
  clear hnil0
  have HNL := toHid hnl
  have HNO := toHid hno
  clear hnl hno
  go_enter Yba.func12, Yba.ntmps12
  go_wp2
  have h := h0.grown (World.grownBy_alloc w0 (.cells news.toArray 37) none)
  have hgw := World.grownBy_alloc w0 (.cells news.toArray 37) none
  have hbx := (MapKept.heap_alloc w0 (.cells news.toArray 37)).1
  have hfb : ∀ k, inF (.slice ao pv.length pc) pv k → k < w0.heap.size := fun k hk => (h0.fp_lt hk).2
  have hrb0 := h0.rb_lt
  generalize (w0.alloc (.cells news.toArray 37)) = w at *
  have HGW := toHid hgw
  have HBX := toHid hbx
  have HFB := toHid hfb
  clear h0 hgw hbx hfb
  have nc := h.nc
  have hc := h.hc
  have hz := h.hz
  have hrb := h.rb_lt
  have hlow := h.low
  have hbase := h.baseLe
  obtain ⟨p, hp⟩ : ∃ p, p = E.length / 4096 := ⟨_, rfl⟩
  obtain ⟨r, hr⟩ : ∃ r, r = E.length % 4096 := ⟨_, rfl⟩
  have e1 : ((E.length : Int) / 4096) = (p : Int) := by omega
  have e2 : ((E.length : Int) % 4096) = (r : Int) := by omega
  have E1 := toHid e1
  have E2 := toHid e2
  have H := toHid h
  have HP := toHid hp
  have HR := toHid hr
  have HN := toHid hnp
  have HCO := toHid hcond
  have hmk := make37
  simp only [Nat.reduceAdd] at nc
  have hcase : (r ≠ 0 ∧ pv.length = p + 1) ∨ (r = 0 ∧ 0 < p ∧ pv.length = p) := by omega
  clear h e1 e2 hp hr hnp hcond
  go_quiet (fail)
  rw [E1.out, E2.out]
  go_upto_if 23 with (fail)
  go_cut [] from 7 (fun wc => MidPostS base 37 53 18 rb 2 E (.slice ao pv.length pc) pv w wc)
  case first =>
    rcases hcase with ⟨hr0, hl⟩ | ⟨hr0, hp0, hl⟩
    · have eb : ((p : Int) == (pv.length : Int)) = false := by simp; omega
      go_wp2
      go_meet
      case rel => exact midS_same H.out (grownBy_drewN w nq none) (by rw [← HP.out]; exact hl) (by rw [← HR.out]; exact hr0)
    · have eb : ((p : Int) == (pv.length : Int)) = true := by simp; omega
      have hle : 0 < (p : Int) := by omega
      have hlb : pv.length ≤ 257 := by have := HN.out; omega
      have hcm : ∀ m, ((w.drewN m).alloc (.cells made37 37)).cell? ⟨rb, 2, none⟩ = some (.slice ao pv.length pc) := fun m => (World.cell?_alloc_lt _ _ _ (by exact hrb)).trans hc
      have HR0 := toHid hr0
      have HL := toHid hl
      have hne : 0 < pv.length := by omega
      clear hr0 hl
      go_wp2_with (refine wpList_append_lies _ rfl (.tmp 31) (.tmp 33) 26 rfl base 53 Yba.t53 (.slice none 0 0) 1 24 Yba.underlying26 info53 zero53 info_size53 info_bytes53 rfl (by decide) (.slice ao pv.length pc) pv.length pv rfl (by exact (H.out.own.alloc _).alloc _) ⟨w.heap.size + 1, 0, none⟩ 1 1 [.slice (some ⟨w.heap.size, 0, none⟩) 0 4096] rfl rfl (by exact World.news_of_block (by have := (MapKept.heap_alloc ((w.drewN nq).alloc (.cells made37 37)) (.cells #[.slice (some ⟨w.heap.size, 0, none⟩) 0 4096] 53)).1; simpa using this)) (by simp [Value.oneCell']) (by decide) (by unfold maxLen; omega) (by omega) (by simp; omega) _ rfl ?_; intro g cap w1 hown hgrow hat hlt; have hrow := H.out.own.lt; have sc := hgrow.cell (a := ⟨rb, 2, none⟩) ((World.cell?_alloc_lt _ _ _ (by simp; omega)).trans ((World.cell?_alloc_lt _ _ _ (by exact hrb)).trans hc)) (fun e1 => by have := (hrow rb e1.symm).1; omega); have sz := (hgrow.frozen_far ⟨rb, 2, none⟩ (by simp; omega) (fun e1 => by have := (hrow rb e1.symm).1; omega)).trans ((frozen?_alloc_cells _ _ _ _).trans ((frozen?_alloc_cells _ _ _ _).trans hz)); have HM := toHid (midS_push H.out (grownBy_trans (grownBy_drewN w nq none) (grownBy_trans (World.grownBy_alloc _ _ _) (World.grownBy_alloc _ _ _))) (by have := HL.out; have := HP.out; have := HR.out; have := HR0.out; omega) (World.ownsRow.alloc (World.ownsRow_made (w.drewN nq) made37 4096 (by simpa using hbase) (by decide) (by rw [made37_size])) _) (by simp [Value.ownBlock]) (by simp [Value.ownBlock]) hown hgrow hat); clear hrow hown hgrow hat hlt)
      go_meet
      case rel => exact HM.out
  case rest =>
    clear hcase hmk nc hc hz hrb
    obtain ⟨hdr', pv', h', hl', hf', hfp', hnn⟩ := hcut
    obtain ⟨pg, pc', rfl, hpg1, hpg2⟩ := h'.own.form (by omega)
    have hpp : p < pv'.length := by have := HP.out; omega
    obtain ⟨v, hv⟩ : ∃ v, pv'[p]? = some v := ⟨_, List.getElem?_eq_getElem hpp⟩
    have hvn := fun hpos => hnn v (by rw [← HP.out]; exact hv) hpos
    have hpage := h'.page p v hv
    have hcl : (chunk p E).length = r := by rw [chunk_length]; have := HP.out; have := HR.out; omega
    have hr4 : r < 4096 := by have := HR.out; omega
    rw [hcl] at hpage
    have hc := h'.hc
    have nc := h'.nc
    have nz := h'.nz
    have hrb := h'.rb_lt
    have hbase' := h'.baseLe
    have pcell : wc.cell? ⟨pg, p, none⟩ = some v := by rw [h'.own.cellAt _ (by omega)]; exact hv
    have pz : wc.frozen? ⟨pg, p, none⟩ = false := h'.own.frozenAt _
    have hd0 := h'.dist0 p v hv
    simp only [Nat.reduceAdd] at nc nz
    have hpl : (p : Int) < (pv'.length : Int) := by omega
    have hbc := (hf'.block w0.heap.size (Array.getElem?_eq_some_iff.1 HBX.out).1 (by omega) (fun hi => by have := HFB.out _ hi; omega)).trans HBX.out
    have hrng : wc.rangeAt w0.heap.size 0 news := fun j u hu => by
      rw [cell_of_row wc w0.heap.size (0 + j) _ 37 _ hbc, Nat.zero_add]; simpa using hu
    have H' := toHid h'
    have HL' := toHid hl'
    have HF' := toHid hf'
    have HFP' := toHid hfp'
    have HCL := toHid hcl
    have HV := toHid hv
    have HPG := toHid hpage
    have HBC := toHid hbc
    have ho := hpage.2
    have hlt2 := hpage.lt
    clear h' hl' hf' hfp' hcl hv H HN hpage hnn hbc
    obtain ⟨q, qc, rfl, hq1⟩ : ∃ q qc, v = .slice (some ⟨q, 0, none⟩) r qc ∧ r ≤ qc := by
      rcases ho with ⟨h1, _⟩ | ⟨q, qc, cur, h1, _, _, h2, _⟩
      · exact absurd h1 (hvn HCO.out)
      · exact ⟨q, qc, h1, h2⟩
    have hqpg : q ≠ pg := fun e1 => hd0 (by rw [e1]; rfl)
    have hql := (hlt2 q rfl)
    have hqb : q ≠ w0.heap.size := fun e1 => by
      rcases HFP'.out q (Or.inr ⟨_, List.mem_of_getElem? HV.out, rfl⟩) with h1 | h1
      · have := HFB.out q h1; omega
      · have := (Array.getElem?_eq_some_iff.1 HBX.out).1; omega
    clear hd0 hlt2 ho hvn
    obtain ⟨W, hWd⟩ : ∃ W, W = (wc.alloc (.cells news.toArray 37)).drew := ⟨_, rfl⟩
    obtain ⟨fl, hfl⟩ : ∃ fl, fl = (chunk p E).flatten := ⟨_, rfl⟩
    have hgW : wc.grownBy W none := by rw [hWd]; exact grownBy_trans (World.grownBy_alloc wc _ none) (grownBy_drew _ none)
    have kown : Hid (W.ownsRow base 37 18 (.slice (some ⟨q, 0, none⟩) r qc) r fl) := by rw [hWd, hfl]; exact HPG.out.alloc _
    have knews : Hid (∀ j u, news[j]? = some u → W.cell? ((⟨wc.heap.size, 0, none⟩ : Addr).add j) = some u) := by
      have hb : W.heap[wc.heap.size]? = some (.cells news.toArray 37) := by rw [hWd]; exact (MapKept.heap_alloc wc _).1
      exact World.news_of_block hb
    have k63 : Hid (r + 1 ≤ maxLen) := by unfold Hid maxLen; omega
    have kby : Hid ((r + 1) * 48 ≤ 140737488355328) := by unfold Hid; omega
    have kbs : Hid (base ≤ W.heap.size) := Nat.le_trans hbase' hgW.size
    have ka : Hid (W.cell? ⟨rb, 2, none⟩ = some (.slice (some ⟨pg, 0, none⟩) pv'.length pc')) := (hgW.cell_far ⟨rb, 2, none⟩ hrb (by simp)).trans hc
    have kb : Hid (W.cell? ⟨pg, p, none⟩ = some (.slice (some ⟨q, 0, none⟩) r qc)) := (hgW.cell_far ⟨pg, p, none⟩ hpg2 (by simp)).trans pcell
    have kr : Hid (W.rangeAt w0.heap.size 0 news) := fun j u hu => hgW.cell (hrng j u hu) (by simp)
    have ksz : Hid (∀ w1, W.grownBy w1 (some q) → w1.frozen? ⟨pg, p, none⟩ = false) := fun w1 hg => (hg.frozen_far ⟨pg, p, none⟩ (Nat.lt_of_lt_of_le hpg2 hgW.size) (by simp; omega)).trans ((hgW.frozen_far ⟨pg, p, none⟩ hpg2 (by simp)).trans pz)
    have kB : Hid (∀ w1, W.grownBy w1 (some q) → w1.rangeAt w0.heap.size 0 news) := fun w1 hg j u hu => hg.cell (kr.out j u hu) (by simp; omega)
    have HGW2 := toHid hgW
    have HWD := toHid hWd
    have HFL := toHid hfl
    clear hgW hWd hfl
    go_wp2
    go_cut [] from 7 (fun wd => ∃ g cap w1, wd = w1.setCell ⟨pg, p, none⟩ (.slice (some ⟨g, 0, none⟩) (r + 1) cap) ∧ w1.ownsRow base 37 18 (.slice (some ⟨g, 0, none⟩) (r + 1) cap) (r + 1) (fl ++ news) ∧ W.grownBy w1 (some q) ∧ ((some q) = some g ∨ g = W.heap.size))
    case first =>
      refine wp_region_L 18 (fun w' => w'.cell? ⟨rb, 2, none⟩ = some (.slice (some ⟨pg, 0, none⟩) pv'.length pc') ∧ w'.cell? ⟨pg, p, none⟩ = some (.slice (some ⟨q, 0, none⟩) r qc) ∧ w'.rangeAt w0.heap.size 0 news) (by kernel_rfl) ?_
      refine wpAnyL_take (i := 0) (oi := ?oi0) (v := ?vv0) ?hi0 (by kernel_rfl) (by kernel_rfl) (by kernel_rfl) (by kernel_rfl) ?hq0 (Or.inl ⟨?hw0, ?hy0⟩) ⟨hc, pcell, hrng⟩ ?more0
      case hi0 => (simp only [List.getElem?_toArray, List.getElem?_cons_zero]; rfl)
      case hq0 => exact fun _ _ _ h => h
      case hw0 => rfl
      case hy0 => (intro w2 hSw; obtain ⟨q1, q2, q3⟩ := hSw; go_simp; try with_reducible rfl)
      simp only [Act.put, List.setIfInBounds_toArray, List.set_cons_zero, List.set_cons_succ]
      refine wpAnyL_take (i := 1) (oi := ?oi1) (v := ?vv1) ?hi1 (by kernel_rfl) (by kernel_rfl) (by kernel_rfl) (by kernel_rfl) ?hq1 (Or.inl ⟨?hw1, ?hy1⟩) ⟨hc, pcell, hrng⟩ ?more1
      case hi1 => (simp only [List.getElem?_toArray, List.getElem?_cons_zero, List.getElem?_cons_succ]; rfl)
      case hq1 => exact fun _ _ _ h => h
      case hw1 => rfl
      case hy1 => (intro w2 hSw; obtain ⟨q1, q2, q3⟩ := hSw; go_simp; try with_reducible rfl)
      simp only [Act.put, List.setIfInBounds_toArray, List.set_cons_zero, List.set_cons_succ]
      refine wpAnyL_take (i := 2) (oi := ?oi2) (v := ?vv2) ?hi2 (by kernel_rfl) (by kernel_rfl) (by kernel_rfl) (by kernel_rfl) ?hq2 (Or.inl ⟨?hw2, ?hy2⟩) ⟨hc, pcell, hrng⟩ ?more2
      case hi2 => (simp only [List.getElem?_toArray, List.getElem?_cons_zero, List.getElem?_cons_succ]; rfl)
      case hq2 => exact fun _ _ _ h => h
      case hw2 => rfl
      case hy2 => (intro w2 hSw; obtain ⟨q1, q2, q3⟩ := hSw; go_simp; try with_reducible rfl)
      simp only [Act.put, List.setIfInBounds_toArray, List.set_cons_zero, List.set_cons_succ]
      refine wpAnyL_take (i := 3) (oi := ?oi3) (v := ?vv3) ?hi3 (by kernel_rfl) (by kernel_rfl) (by kernel_rfl) (by kernel_rfl) ?hq3 (Or.inl ⟨?hw3, ?hy3⟩) ⟨hc, pcell, hrng⟩ ?more3
      case hi3 => (simp only [List.getElem?_toArray, List.getElem?_cons_zero, List.getElem?_cons_succ]; rfl)
      case hq3 => exact fun _ _ _ h => h
      case hw3 => rfl
      case hy3 => (intro w2 hSw; obtain ⟨q1, q2, q3⟩ := hSw; go_simp; try with_reducible rfl)
      simp only [Act.put, List.setIfInBounds_toArray, List.set_cons_zero, List.set_cons_succ]
      refine wpAnyL_take (i := 4) (oi := ?oi4) (v := ?vv4) ?hi4 (by kernel_rfl) (by kernel_rfl) (by kernel_rfl) (by kernel_rfl) ?hq4 (Or.inl ⟨?hw4, ?hy4⟩) ⟨hc, pcell, hrng⟩ ?more4
      case hi4 => (simp only [List.getElem?_toArray, List.getElem?_cons_zero, List.getElem?_cons_succ]; rfl)
      case hq4 => exact fun _ _ _ h => h
      case hw4 => rfl
      case hy4 => (intro w2 hSw; obtain ⟨q1, q2, q3⟩ := hSw; go_simp; try with_reducible rfl)
      simp only [Act.put, List.setIfInBounds_toArray, List.set_cons_zero, List.set_cons_succ]
      refine wpAnyL_take (i := 5) (oi := ?oi5) (v := ?vv5) ?hi5 (by kernel_rfl) (by kernel_rfl) (by kernel_rfl) (by kernel_rfl) ?hq5 (Or.inl ⟨?hw5, ?hy5⟩) ⟨hc, pcell, hrng⟩ ?more5
      case hi5 => (simp only [List.getElem?_toArray, List.getElem?_cons_zero, List.getElem?_cons_succ]; rfl)
      case hq5 => exact fun _ _ _ h => h
      case hw5 => rfl
      case hy5 => (intro w2 hSw; obtain ⟨q1, q2, q3⟩ := hSw; go_simp; try with_reducible rfl)
      simp only [Act.put, List.setIfInBounds_toArray, List.set_cons_zero, List.set_cons_succ]
      refine wpAnyL_take (i := 6) (oi := ?oi6) (v := ?vv6) ?hi6 (by kernel_rfl) (by kernel_rfl) (by kernel_rfl) (by kernel_rfl) ?hq6 (Or.inl ⟨?hw6, ?hy6⟩) ⟨hc, pcell, hrng⟩ ?more6
      case hi6 => (simp only [List.getElem?_toArray, List.getElem?_cons_zero, List.getElem?_cons_succ]; rfl)
      case hq6 => exact fun _ _ _ h => h
      case hw6 => rfl
      case hy6 => (intro w2 hSw; obtain ⟨q1, q2, q3⟩ := hSw; go_simp; try with_reducible rfl)
      simp only [Act.put, List.setIfInBounds_toArray, List.set_cons_zero, List.set_cons_succ]
      refine wpAnyL_take (i := 7) (oi := ?oi7) (v := ?vv7) ?hi7 (by kernel_rfl) (by kernel_rfl) (by kernel_rfl) (by kernel_rfl) ?hq7 (Or.inl ⟨?hw7, ?hy7⟩) ⟨hc, pcell, hrng⟩ ?more7
      case hi7 => (simp only [List.getElem?_toArray, List.getElem?_cons_zero, List.getElem?_cons_succ]; rfl)
      case hq7 => exact fun _ _ _ h => h
      case hw7 => rfl
      case hy7 => (intro w2 hSw; obtain ⟨q1, q2, q3⟩ := hSw; go_simp; try with_reducible rfl)
      simp only [Act.put, List.setIfInBounds_toArray, List.set_cons_zero, List.set_cons_succ]
      refine wpAnyL_take (i := 8) (oi := ?oi8) (v := ?vv8) ?hi8 (by kernel_rfl) (by kernel_rfl) (by kernel_rfl) (by kernel_rfl) ?hq8 (Or.inl ⟨?hw8, ?hy8⟩) ⟨hc, pcell, hrng⟩ ?more8
      case hi8 => (simp only [List.getElem?_toArray, List.getElem?_cons_zero, List.getElem?_cons_succ]; rfl)
      case hq8 => exact fun _ _ _ h => h
      case hw8 => rfl
      case hy8 => (intro w2 hSw; obtain ⟨q1, q2, q3⟩ := hSw; go_simp; try with_reducible rfl)
      simp only [Act.put, List.setIfInBounds_toArray, List.set_cons_zero, List.set_cons_succ]
      refine wpAnyL_take (i := 9) (oi := ?oi9) (v := ?vv9) ?hi9 (by kernel_rfl) (by kernel_rfl) (by kernel_rfl) (by kernel_rfl) ?hq9 (Or.inl ⟨?hw9, ?hy9⟩) ⟨hc, pcell, hrng⟩ ?more9
      case hi9 => (simp only [List.getElem?_toArray, List.getElem?_cons_zero, List.getElem?_cons_succ]; rfl)
      case hq9 => exact fun _ _ _ h => h
      case hw9 => rfl
      case hy9 => (intro w2 hSw; obtain ⟨q1, q2, q3⟩ := hSw; go_simp; try with_reducible rfl)
      simp only [Act.put, List.setIfInBounds_toArray, List.set_cons_zero, List.set_cons_succ]
      refine wpAnyL_take (i := 10) (oi := ?oi10) (v := ?vv10) ?hi10 (by kernel_rfl) (by kernel_rfl) (by kernel_rfl) (by kernel_rfl) ?hq10 (Or.inl ⟨?hw10, ?hy10⟩) ⟨hc, pcell, hrng⟩ ?more10
      case hi10 => (simp only [List.getElem?_toArray, List.getElem?_cons_zero, List.getElem?_cons_succ]; rfl)
      case hq10 => exact fun _ _ _ h => h
      case hw10 => rfl
      case hy10 => (intro w2 hSw; obtain ⟨q1, q2, q3⟩ := hSw; go_simp; try with_reducible rfl)
      simp only [Act.put, List.setIfInBounds_toArray, List.set_cons_zero, List.set_cons_succ]
      refine wpAnyL_take (i := 11) (oi := ?oi11) (v := ?vv11) ?hi11 (by kernel_rfl) (by kernel_rfl) (by kernel_rfl) (by kernel_rfl) ?hq11 (Or.inl ⟨?hw11, ?hy11⟩) ⟨hc, pcell, hrng⟩ ?more11
      case hi11 => (simp only [List.getElem?_toArray, List.getElem?_cons_zero, List.getElem?_cons_succ]; rfl)
      case hq11 => exact fun _ _ _ h => h
      case hw11 => rfl
      case hy11 => (intro w2 hSw; obtain ⟨q1, q2, q3⟩ := hSw; go_simp; try with_reducible rfl)
      simp only [Act.put, List.setIfInBounds_toArray, List.set_cons_zero, List.set_cons_succ]
      refine wpAnyL_take (i := 12) (oi := ?oi12) (v := ?vv12) ?hi12 (by kernel_rfl) (by kernel_rfl) (by kernel_rfl) (by kernel_rfl) ?hq12 (Or.inl ⟨?hw12, ?hy12⟩) ⟨hc, pcell, hrng⟩ ?more12
      case hi12 => (simp only [List.getElem?_toArray, List.getElem?_cons_zero, List.getElem?_cons_succ]; rfl)
      case hq12 => exact fun _ _ _ h => h
      case hw12 => rfl
      case hy12 => (intro w2 hSw; obtain ⟨q1, q2, q3⟩ := hSw; go_simp; try with_reducible rfl)
      simp only [Act.put, List.setIfInBounds_toArray, List.set_cons_zero, List.set_cons_succ]
      refine wpAnyL_take (i := 13) (oi := ?oi13) (v := ?vv13) ?hi13 (by kernel_rfl) (by kernel_rfl) (by kernel_rfl) (by kernel_rfl) ?hq13 (Or.inl ⟨?hw13, ?hy13⟩) ⟨hc, pcell, hrng⟩ ?more13
      case hi13 => (simp only [List.getElem?_toArray, List.getElem?_cons_zero, List.getElem?_cons_succ]; rfl)
      case hq13 => exact fun _ _ _ h => h
      case hw13 => rfl
      case hy13 => (intro w2 hSw; obtain ⟨q1, q2, q3⟩ := hSw; go_simp; try with_reducible rfl)
      simp only [Act.put, List.setIfInBounds_toArray, List.set_cons_zero, List.set_cons_succ]
      refine wpAnyL_take (i := 14) (oi := ?oi14) (v := .agg news.toArray) ?hi14 (by kernel_rfl) (by kernel_rfl) (by kernel_rfl) (by kernel_rfl) ?hq14 ?hy14 ⟨hc, pcell, hrng⟩ ?more14
      case hi14 => (simp only [List.getElem?_toArray, List.getElem?_cons_zero, List.getElem?_cons_succ]; rfl)
      case hq14 => exact fun _ _ _ h => h
      case hy14 => exact yieldsIf_load_mid rfl 37 _ rfl w0.heap.size 0 rfl news _ (fun w2 hSw => hSw.2.2) Yba.underlying37 rfl (by rw [HNL.out]; kernel_rfl)
      simp only [Act.put, List.setIfInBounds_toArray, List.set_cons_zero, List.set_cons_succ]
      refine wpAnyL_one (i := 15) (o := ?oi15) (by kernel_rfl) ?hi15 ?st15
      case hi15 => (simp only [List.getElem?_toArray, List.getElem?_cons_zero, List.getElem?_cons_succ]; rfl)
      case st15 =>
      intro K hK
      have hfold := fold_news news HNL.out
      have hnl := HNL.out
      go_simp
      refine hK.out _ _ (Or.inr ⟨by have := ka.out; rw [HWD.out] at this; exact this, by have := kb.out; rw [HWD.out] at this; exact this, by have := kr.out; rw [HWD.out] at this; exact this⟩) ?_
      clear hK K hfold hnl
      rw [show (wc.alloc (.cells news.toArray 37)).drew = W from HWD.out.symm]
      refine wpAnyL_one (i := 16) (o := ?oi16) (by kernel_rfl) ?hi16 ?st16
      case hi16 => (simp only [List.getElem?_toArray, List.getElem?_cons_zero, List.getElem?_cons_succ]; rfl)
      case st16 =>
      intro K hK
      refine step_append_lies W rfl (.tmp 50) (.tmp 52) 53 rfl base 37 Yba.t37 (.agg (locA 0)) 18 48 Yba.underlying53 info37 zero37 info_size37 info_bytes37 rfl (by decide) (.slice (some ⟨q, 0, none⟩) r qc) r fl rfl kown.out ⟨wc.heap.size, 0, none⟩ 1 1 news rfl (by rw [HNL.out]) knews.out HNO.out (by decide) k63.out kby.out kbs.out _ rfl ?_
      intro g cap w1 hown hgrow0 hat hlt
      have hgrow : W.grownBy w1 (some q) := hgrow0
      have sa := hgrow.cell ka.out (by simp; omega)
      have sb := hgrow.cell kb.out (by simp; omega)
      have sr := kB.out w1 hgrow
      have sz := ksz.out w1 hgrow
      refine hK.out _ _ (Or.inr ⟨sa, sb, sr⟩) ?_
      clear hK K
      simp only [Act.put, List.setIfInBounds_toArray, List.set_cons_zero, List.set_cons_succ]
      refine wpAnyL_take (i := 17) (oi := ?oi17) (v := ?vv17) ?hi17 (by kernel_rfl) (by kernel_rfl) (by kernel_rfl) (by kernel_rfl) ?hq17 (Or.inl ⟨?hw17, ?hy17⟩) ⟨sa, sb, sr⟩ ?more17
      case hi17 => (simp only [List.getElem?_toArray, List.getElem?_cons_zero, List.getElem?_cons_succ]; rfl)
      case hq17 => exact fun _ _ _ h => h
      case hw17 => rfl
      case hy17 => (intro w2 hSw; obtain ⟨q1, q2, q3⟩ := hSw; go_simp; try with_reducible rfl)
      simp only [Act.put, List.setIfInBounds_toArray, List.set_cons_zero, List.set_cons_succ]
      refine wpAnyL_one (i := 18) (o := ?oi18) (by kernel_rfl) ?hi18 ?st18
      case hi18 => (simp only [List.getElem?_toArray, List.getElem?_cons_zero, List.getElem?_cons_succ]; rfl)
      case st18 =>
      intro K hK
      go_simp
      refine hK.out _ _ (Or.inl rfl) ?_
      clear hK K
      refine wpAnyL_done (by kernel_rfl) ?_ _
      go_wp2
      go_meet
      case rel => exact ⟨g, cap, w1, rfl, hown, hgrow, hat⟩
    case rest =>
      obtain ⟨g, cap, w1, rfl, hown, hgrow, hat⟩ := hcut
      have sn := hgrow.cell ((HGW2.out.cell_far ⟨rb, 3, none⟩ hrb (by simp)).trans nc) (by simp; omega)
      have sf := (hgrow.frozen_far ⟨rb, 3, none⟩ (Nat.lt_of_lt_of_le hrb HGW2.out.size) (by simp; omega)).trans ((HGW2.out.frozen_far ⟨rb, 3, none⟩ hrb (by simp)).trans nz)
      have HA := toHid (mid_put (v := .slice (some ⟨q, 0, none⟩) r qc) (x := news) (r := r) H'.out HL'.out HF'.out HFP'.out HGW2.out (by rw [← HP.out]; exact HV.out) HNL.out rfl (by rw [← HP.out]; exact HCL.out.symm) (by rw [← HP.out, ← HFL.out]; exact hown) hgrow hat)
      rw [← HP.out] at HA
      have d1 := (World.cell?_setCell_other w1 ⟨pg, p, none⟩ ⟨rb, 3, none⟩ (.slice (some ⟨g, 0, none⟩) (r + 1) cap) (by simp <;> omega)).trans sn
      clear hown hgrow hat
      go_wp2
      go_end0
      exact ⟨rfl, addpost_pre HGW.out HA.out hrb0⟩

set_option maxRecDepth 100000 in
set_option maxHeartbeats 4000000 in
theorem addL_nil {base rb : Nat} {E : List (List Value)} {hdr : Value} {pv : List Value} (news : List Value) (hnl : news.length = 18) (hno : ∀ u ∈ news, u.oneCell' = true) (w0 : World)
    (h0 : PL w0 base 37 53 18 rb 2 E hdr pv) (hn : E.length ≤ 1048576) (hnp : pv.length = (E.length + 4095) / 4096) (hcond : E.length = 0) :
    Calls Yba.prog 12 #[.pointer (some ⟨rb, 2, none⟩), .agg news.toArray] w0 fun e w' => e = .returned (.tuple #[]) ∧ AddPost base 37 53 18 rb 2 E news hdr pv w0 w' := by
  obtain ⟨ao, pc, rfl, hnil0⟩ := own_form h0.own
  clear hnil0
  have HNL := toHid hnl
  have HNO := toHid hno
  clear hnl hno
  go_enter Yba.func12, Yba.ntmps12
  go_wp2
  have h := h0.grown (World.grownBy_alloc w0 (.cells news.toArray 37) none)
  have hgw := World.grownBy_alloc w0 (.cells news.toArray 37) none
  have hbx := (MapKept.heap_alloc w0 (.cells news.toArray 37)).1
  have hfb : ∀ k, inF (.slice ao pv.length pc) pv k → k < w0.heap.size := fun k hk => (h0.fp_lt hk).2
  have hrb0 := h0.rb_lt
  generalize (w0.alloc (.cells news.toArray 37)) = w at *
  have HGW := toHid hgw
  have HBX := toHid hbx
  have HFB := toHid hfb
  clear h0 hgw hbx hfb
  have nc := h.nc
  have hc := h.hc
  have hz := h.hz
  have hrb := h.rb_lt
  have hlow := h.low
  have hbase := h.baseLe
  obtain ⟨p, hp⟩ : ∃ p, p = E.length / 4096 := ⟨_, rfl⟩
  obtain ⟨r, hr⟩ : ∃ r, r = E.length % 4096 := ⟨_, rfl⟩
  have e1 : ((E.length : Int) / 4096) = (p : Int) := by omega
  have e2 : ((E.length : Int) % 4096) = (r : Int) := by omega
  have E1 := toHid e1
  have E2 := toHid e2
  have H := toHid h
  have HP := toHid hp
  have HR := toHid hr
  have HN := toHid hnp
  have HCO := toHid hcond
  have hmk := make37
  simp only [Nat.reduceAdd] at nc
  have hcase : r = 0 ∧ p = 0 ∧ pv.length = 0 := by omega
  clear h e1 e2 hp hr hnp hcond
  go_quiet (fail)
  rw [E1.out, E2.out]
  go_upto_if 23 with (fail)
  go_cut [] from 7 (fun wc => MidPostR base 37 53 18 rb 2 E (.slice none 0 0) (.slice ao pv.length pc) pv w wc)
  case first =>
    have eb : ((p : Int) == (pv.length : Int)) = true := by simp; omega
    have hle : (p : Int) ≤ 0 := by omega
    have hlb : pv.length ≤ 0 := by omega
    obtain ⟨hr0, hp0, hl⟩ := hcase
    have HR0 := toHid hr0
    have HP0 := toHid hp0
    have HL := toHid hl
    clear hr0 hp0 hl
    go_wp2_with (refine wpList_append_lies _ rfl (.tmp 31) (.tmp 33) 26 rfl base 53 Yba.t53 (.slice none 0 0) 1 24 Yba.underlying26 info53 zero53 info_size53 info_bytes53 rfl (by decide) (.slice ao pv.length pc) pv.length pv rfl (by exact H.out.own.alloc _) ⟨w.heap.size, 0, none⟩ 1 1 [.slice none 0 0] rfl rfl (by exact World.news_of_block (MapKept.heap_alloc w _).1) (by simp [Value.oneCell']) (by decide) (by unfold maxLen; omega) (by omega) (by simp; omega) _ rfl ?_; intro g cap w1 hown hgrow hat hlt; have hrow := H.out.own.lt; have sc := hgrow.cell (a := ⟨rb, 2, none⟩) (World.cell?_alloc_lt _ _ _ (by exact hrb) |>.trans hc) (fun e1 => by have := (hrow rb e1.symm).1; omega); have sz := (hgrow.frozen_far ⟨rb, 2, none⟩ (by simp; omega) (fun e1 => by have := (hrow rb e1.symm).1; omega)).trans ((frozen?_alloc_cells _ _ _ _).trans hz); have HM := toHid (midR_push H.out (grownBy_trans (grownBy_drewN w nq none) (World.grownBy_alloc _ _ _)) (by have := HL.out; have := HP.out; have := HR.out; have := HR0.out; omega) (World.ownsRow_nil _ _ _ _) (by simp [Value.ownBlock]) (fun _ => List.eq_nil_of_length_eq_zero HL.out) hown hgrow hat); clear hrow hown hgrow hat hlt)
    go_meet
    case rel => exact HM.out
  case rest =>
    clear hcase hmk nc hc hz hrb
    obtain ⟨hdr', pv', h', hl', hf', hfp', hnn⟩ := hcut
    obtain ⟨pg, pc', rfl, hpg1, hpg2⟩ := h'.own.form (by omega)
    have hpp : p < pv'.length := by have := HP.out; omega
    obtain ⟨v, hv, hvn⟩ : ∃ v, pv'[p]? = some v ∧ v = .slice none 0 0 := ⟨_, by rw [HP.out]; exact hnn, rfl⟩
    have hpage := h'.page p v hv
    have hcl : (chunk p E).length = r := by rw [chunk_length]; have := HP.out; have := HR.out; omega
    have hr4 : r < 4096 := by have := HR.out; omega
    rw [hcl] at hpage
    have hc := h'.hc
    have nc := h'.nc
    have nz := h'.nz
    have hrb := h'.rb_lt
    have hbase' := h'.baseLe
    have pcell : wc.cell? ⟨pg, p, none⟩ = some v := by rw [h'.own.cellAt _ (by omega)]; exact hv
    have pz : wc.frozen? ⟨pg, p, none⟩ = false := h'.own.frozenAt _
    have hd0 := h'.dist0 p v hv
    simp only [Nat.reduceAdd] at nc nz
    have hpl : (p : Int) < (pv'.length : Int) := by omega
    have hbc := (hf'.block w0.heap.size (Array.getElem?_eq_some_iff.1 HBX.out).1 (by omega) (fun hi => by have := HFB.out _ hi; omega)).trans HBX.out
    have hrng : wc.rangeAt w0.heap.size 0 news := fun j u hu => by
      rw [cell_of_row wc w0.heap.size (0 + j) _ 37 _ hbc, Nat.zero_add]; simpa using hu
    have H' := toHid h'
    have HL' := toHid hl'
    have HF' := toHid hf'
    have HFP' := toHid hfp'
    have HCL := toHid hcl
    have HV := toHid hv
    have HPG := toHid hpage
    have HBC := toHid hbc
    have ho := hpage.2
    have hlt2 := hpage.lt
    clear h' hl' hf' hfp' hcl hv H HN hpage hnn hbc
    have hr0 : r = 0 := by have := HR.out; have := HCO.out; omega
    subst hr0
    subst hvn
    rw [show (((0 : Nat) : Int)) = (0 : Int) from rfl]
    clear hd0 hlt2 ho
    obtain ⟨W, hWd⟩ : ∃ W, W = (wc.alloc (.cells news.toArray 37)).drew := ⟨_, rfl⟩
    obtain ⟨fl, hfl⟩ : ∃ fl, fl = (chunk p E).flatten := ⟨_, rfl⟩
    have hgW : wc.grownBy W none := by rw [hWd]; exact grownBy_trans (World.grownBy_alloc wc _ none) (grownBy_drew _ none)
    have kown : Hid (W.ownsRow base 37 18 (.slice none 0 0) 0 fl) := by rw [hWd, hfl]; exact HPG.out.alloc _
    have knews : Hid (∀ j u, news[j]? = some u → W.cell? ((⟨wc.heap.size, 0, none⟩ : Addr).add j) = some u) := by
      have hb : W.heap[wc.heap.size]? = some (.cells news.toArray 37) := by rw [hWd]; exact (MapKept.heap_alloc wc _).1
      exact World.news_of_block hb
    have k63 : Hid (0 + 1 ≤ maxLen) := by unfold Hid maxLen; omega
    have kby : Hid ((0 + 1) * 48 ≤ 140737488355328) := by unfold Hid; omega
    have kbs : Hid (base ≤ W.heap.size) := Nat.le_trans hbase' hgW.size
    have ka : Hid (W.cell? ⟨rb, 2, none⟩ = some (.slice (some ⟨pg, 0, none⟩) pv'.length pc')) := (hgW.cell_far ⟨rb, 2, none⟩ hrb (by simp)).trans hc
    have kb : Hid (W.cell? ⟨pg, p, none⟩ = some (.slice none 0 0)) := (hgW.cell_far ⟨pg, p, none⟩ hpg2 (by simp)).trans pcell
    have kr : Hid (W.rangeAt w0.heap.size 0 news) := fun j u hu => hgW.cell (hrng j u hu) (by simp)
    have ksz : Hid (∀ w1, W.grownBy w1 none → w1.frozen? ⟨pg, p, none⟩ = false) := fun w1 hg => (hg.frozen_far ⟨pg, p, none⟩ (Nat.lt_of_lt_of_le hpg2 hgW.size) (by simp)).trans ((hgW.frozen_far ⟨pg, p, none⟩ hpg2 (by simp)).trans pz)
    have kB : Hid (∀ w1, W.grownBy w1 none → w1.rangeAt w0.heap.size 0 news) := fun w1 hg j u hu => hg.cell (kr.out j u hu) (by simp)
    have HGW2 := toHid hgW
    have HWD := toHid hWd
    have HFL := toHid hfl
    clear hgW hWd hfl
    go_wp2
    go_cut [] from 7 (fun wd => ∃ g cap w1, wd = w1.setCell ⟨pg, p, none⟩ (.slice (some ⟨g, 0, none⟩) (0 + 1) cap) ∧ w1.ownsRow base 37 18 (.slice (some ⟨g, 0, none⟩) (0 + 1) cap) (0 + 1) (fl ++ news) ∧ W.grownBy w1 none ∧ (none = some g ∨ g = W.heap.size))
    case first =>
      refine wp_region_L 18 (fun w' => w'.cell? ⟨rb, 2, none⟩ = some (.slice (some ⟨pg, 0, none⟩) pv'.length pc') ∧ w'.cell? ⟨pg, p, none⟩ = some (.slice none 0 0) ∧ w'.rangeAt w0.heap.size 0 news) (by kernel_rfl) ?_
      refine wpAnyL_take (i := 0) (oi := ?oi0) (v := ?vv0) ?hi0 (by kernel_rfl) (by kernel_rfl) (by kernel_rfl) (by kernel_rfl) ?hq0 (Or.inl ⟨?hw0, ?hy0⟩) ⟨hc, pcell, hrng⟩ ?more0
      case hi0 => (simp only [List.getElem?_toArray, List.getElem?_cons_zero]; rfl)
      case hq0 => exact fun _ _ _ h => h
      case hw0 => rfl
      case hy0 => (intro w2 hSw; obtain ⟨q1, q2, q3⟩ := hSw; go_simp; try with_reducible rfl)
      simp only [Act.put, List.setIfInBounds_toArray, List.set_cons_zero, List.set_cons_succ]
      refine wpAnyL_take (i := 1) (oi := ?oi1) (v := ?vv1) ?hi1 (by kernel_rfl) (by kernel_rfl) (by kernel_rfl) (by kernel_rfl) ?hq1 (Or.inl ⟨?hw1, ?hy1⟩) ⟨hc, pcell, hrng⟩ ?more1
      case hi1 => (simp only [List.getElem?_toArray, List.getElem?_cons_zero, List.getElem?_cons_succ]; rfl)
      case hq1 => exact fun _ _ _ h => h
      case hw1 => rfl
      case hy1 => (intro w2 hSw; obtain ⟨q1, q2, q3⟩ := hSw; go_simp; try with_reducible rfl)
      simp only [Act.put, List.setIfInBounds_toArray, List.set_cons_zero, List.set_cons_succ]
      refine wpAnyL_take (i := 2) (oi := ?oi2) (v := ?vv2) ?hi2 (by kernel_rfl) (by kernel_rfl) (by kernel_rfl) (by kernel_rfl) ?hq2 (Or.inl ⟨?hw2, ?hy2⟩) ⟨hc, pcell, hrng⟩ ?more2
      case hi2 => (simp only [List.getElem?_toArray, List.getElem?_cons_zero, List.getElem?_cons_succ]; rfl)
      case hq2 => exact fun _ _ _ h => h
      case hw2 => rfl
      case hy2 => (intro w2 hSw; obtain ⟨q1, q2, q3⟩ := hSw; go_simp; try with_reducible rfl)
      simp only [Act.put, List.setIfInBounds_toArray, List.set_cons_zero, List.set_cons_succ]
      refine wpAnyL_take (i := 3) (oi := ?oi3) (v := ?vv3) ?hi3 (by kernel_rfl) (by kernel_rfl) (by kernel_rfl) (by kernel_rfl) ?hq3 (Or.inl ⟨?hw3, ?hy3⟩) ⟨hc, pcell, hrng⟩ ?more3
      case hi3 => (simp only [List.getElem?_toArray, List.getElem?_cons_zero, List.getElem?_cons_succ]; rfl)
      case hq3 => exact fun _ _ _ h => h
      case hw3 => rfl
      case hy3 => (intro w2 hSw; obtain ⟨q1, q2, q3⟩ := hSw; go_simp; try with_reducible rfl)
      simp only [Act.put, List.setIfInBounds_toArray, List.set_cons_zero, List.set_cons_succ]
      refine wpAnyL_take (i := 4) (oi := ?oi4) (v := ?vv4) ?hi4 (by kernel_rfl) (by kernel_rfl) (by kernel_rfl) (by kernel_rfl) ?hq4 (Or.inl ⟨?hw4, ?hy4⟩) ⟨hc, pcell, hrng⟩ ?more4
      case hi4 => (simp only [List.getElem?_toArray, List.getElem?_cons_zero, List.getElem?_cons_succ]; rfl)
      case hq4 => exact fun _ _ _ h => h
      case hw4 => rfl
      case hy4 => (intro w2 hSw; obtain ⟨q1, q2, q3⟩ := hSw; go_simp; try with_reducible rfl)
      simp only [Act.put, List.setIfInBounds_toArray, List.set_cons_zero, List.set_cons_succ]
      refine wpAnyL_take (i := 5) (oi := ?oi5) (v := ?vv5) ?hi5 (by kernel_rfl) (by kernel_rfl) (by kernel_rfl) (by kernel_rfl) ?hq5 (Or.inl ⟨?hw5, ?hy5⟩) ⟨hc, pcell, hrng⟩ ?more5
      case hi5 => (simp only [List.getElem?_toArray, List.getElem?_cons_zero, List.getElem?_cons_succ]; rfl)
      case hq5 => exact fun _ _ _ h => h
      case hw5 => rfl
      case hy5 => (intro w2 hSw; obtain ⟨q1, q2, q3⟩ := hSw; go_simp; try with_reducible rfl)
      simp only [Act.put, List.setIfInBounds_toArray, List.set_cons_zero, List.set_cons_succ]
      refine wpAnyL_take (i := 6) (oi := ?oi6) (v := ?vv6) ?hi6 (by kernel_rfl) (by kernel_rfl) (by kernel_rfl) (by kernel_rfl) ?hq6 (Or.inl ⟨?hw6, ?hy6⟩) ⟨hc, pcell, hrng⟩ ?more6
      case hi6 => (simp only [List.getElem?_toArray, List.getElem?_cons_zero, List.getElem?_cons_succ]; rfl)
      case hq6 => exact fun _ _ _ h => h
      case hw6 => rfl
      case hy6 => (intro w2 hSw; obtain ⟨q1, q2, q3⟩ := hSw; go_simp; try with_reducible rfl)
      simp only [Act.put, List.setIfInBounds_toArray, List.set_cons_zero, List.set_cons_succ]
      refine wpAnyL_take (i := 7) (oi := ?oi7) (v := ?vv7) ?hi7 (by kernel_rfl) (by kernel_rfl) (by kernel_rfl) (by kernel_rfl) ?hq7 (Or.inl ⟨?hw7, ?hy7⟩) ⟨hc, pcell, hrng⟩ ?more7
      case hi7 => (simp only [List.getElem?_toArray, List.getElem?_cons_zero, List.getElem?_cons_succ]; rfl)
      case hq7 => exact fun _ _ _ h => h
      case hw7 => rfl
      case hy7 => (intro w2 hSw; obtain ⟨q1, q2, q3⟩ := hSw; go_simp; try with_reducible rfl)
      simp only [Act.put, List.setIfInBounds_toArray, List.set_cons_zero, List.set_cons_succ]
      refine wpAnyL_take (i := 8) (oi := ?oi8) (v := ?vv8) ?hi8 (by kernel_rfl) (by kernel_rfl) (by kernel_rfl) (by kernel_rfl) ?hq8 (Or.inl ⟨?hw8, ?hy8⟩) ⟨hc, pcell, hrng⟩ ?more8
      case hi8 => (simp only [List.getElem?_toArray, List.getElem?_cons_zero, List.getElem?_cons_succ]; rfl)
      case hq8 => exact fun _ _ _ h => h
      case hw8 => rfl
      case hy8 => (intro w2 hSw; obtain ⟨q1, q2, q3⟩ := hSw; go_simp; try with_reducible rfl)
      simp only [Act.put, List.setIfInBounds_toArray, List.set_cons_zero, List.set_cons_succ]
      refine wpAnyL_take (i := 9) (oi := ?oi9) (v := ?vv9) ?hi9 (by kernel_rfl) (by kernel_rfl) (by kernel_rfl) (by kernel_rfl) ?hq9 (Or.inl ⟨?hw9, ?hy9⟩) ⟨hc, pcell, hrng⟩ ?more9
      case hi9 => (simp only [List.getElem?_toArray, List.getElem?_cons_zero, List.getElem?_cons_succ]; rfl)
      case hq9 => exact fun _ _ _ h => h
      case hw9 => rfl
      case hy9 => (intro w2 hSw; obtain ⟨q1, q2, q3⟩ := hSw; go_simp; try with_reducible rfl)
      simp only [Act.put, List.setIfInBounds_toArray, List.set_cons_zero, List.set_cons_succ]
      refine wpAnyL_take (i := 10) (oi := ?oi10) (v := ?vv10) ?hi10 (by kernel_rfl) (by kernel_rfl) (by kernel_rfl) (by kernel_rfl) ?hq10 (Or.inl ⟨?hw10, ?hy10⟩) ⟨hc, pcell, hrng⟩ ?more10
      case hi10 => (simp only [List.getElem?_toArray, List.getElem?_cons_zero, List.getElem?_cons_succ]; rfl)
      case hq10 => exact fun _ _ _ h => h
      case hw10 => rfl
      case hy10 => (intro w2 hSw; obtain ⟨q1, q2, q3⟩ := hSw; go_simp; try with_reducible rfl)
      simp only [Act.put, List.setIfInBounds_toArray, List.set_cons_zero, List.set_cons_succ]
      refine wpAnyL_take (i := 11) (oi := ?oi11) (v := ?vv11) ?hi11 (by kernel_rfl) (by kernel_rfl) (by kernel_rfl) (by kernel_rfl) ?hq11 (Or.inl ⟨?hw11, ?hy11⟩) ⟨hc, pcell, hrng⟩ ?more11
      case hi11 => (simp only [List.getElem?_toArray, List.getElem?_cons_zero, List.getElem?_cons_succ]; rfl)
      case hq11 => exact fun _ _ _ h => h
      case hw11 => rfl
      case hy11 => (intro w2 hSw; obtain ⟨q1, q2, q3⟩ := hSw; go_simp; try with_reducible rfl)
      simp only [Act.put, List.setIfInBounds_toArray, List.set_cons_zero, List.set_cons_succ]
      refine wpAnyL_take (i := 12) (oi := ?oi12) (v := ?vv12) ?hi12 (by kernel_rfl) (by kernel_rfl) (by kernel_rfl) (by kernel_rfl) ?hq12 (Or.inl ⟨?hw12, ?hy12⟩) ⟨hc, pcell, hrng⟩ ?more12
      case hi12 => (simp only [List.getElem?_toArray, List.getElem?_cons_zero, List.getElem?_cons_succ]; rfl)
      case hq12 => exact fun _ _ _ h => h
      case hw12 => rfl
      case hy12 => (intro w2 hSw; obtain ⟨q1, q2, q3⟩ := hSw; go_simp; try with_reducible rfl)
      simp only [Act.put, List.setIfInBounds_toArray, List.set_cons_zero, List.set_cons_succ]
      refine wpAnyL_take (i := 13) (oi := ?oi13) (v := ?vv13) ?hi13 (by kernel_rfl) (by kernel_rfl) (by kernel_rfl) (by kernel_rfl) ?hq13 (Or.inl ⟨?hw13, ?hy13⟩) ⟨hc, pcell, hrng⟩ ?more13
      case hi13 => (simp only [List.getElem?_toArray, List.getElem?_cons_zero, List.getElem?_cons_succ]; rfl)
      case hq13 => exact fun _ _ _ h => h
      case hw13 => rfl
      case hy13 => (intro w2 hSw; obtain ⟨q1, q2, q3⟩ := hSw; go_simp; try with_reducible rfl)
      simp only [Act.put, List.setIfInBounds_toArray, List.set_cons_zero, List.set_cons_succ]
      refine wpAnyL_take (i := 14) (oi := ?oi14) (v := .agg news.toArray) ?hi14 (by kernel_rfl) (by kernel_rfl) (by kernel_rfl) (by kernel_rfl) ?hq14 ?hy14 ⟨hc, pcell, hrng⟩ ?more14
      case hi14 => (simp only [List.getElem?_toArray, List.getElem?_cons_zero, List.getElem?_cons_succ]; rfl)
      case hq14 => exact fun _ _ _ h => h
      case hy14 => exact yieldsIf_load_mid rfl 37 _ rfl w0.heap.size 0 rfl news _ (fun w2 hSw => hSw.2.2) Yba.underlying37 rfl (by rw [HNL.out]; kernel_rfl)
      simp only [Act.put, List.setIfInBounds_toArray, List.set_cons_zero, List.set_cons_succ]
      refine wpAnyL_one (i := 15) (o := ?oi15) (by kernel_rfl) ?hi15 ?st15
      case hi15 => (simp only [List.getElem?_toArray, List.getElem?_cons_zero, List.getElem?_cons_succ]; rfl)
      case st15 =>
      intro K hK
      have hfold := fold_news news HNL.out
      have hnl := HNL.out
      go_simp
      refine hK.out _ _ (Or.inr ⟨by have := ka.out; rw [HWD.out] at this; exact this, by have := kb.out; rw [HWD.out] at this; exact this, by have := kr.out; rw [HWD.out] at this; exact this⟩) ?_
      clear hK K hfold hnl
      rw [show (wc.alloc (.cells news.toArray 37)).drew = W from HWD.out.symm]
      refine wpAnyL_one (i := 16) (o := ?oi16) (by kernel_rfl) ?hi16 ?st16
      case hi16 => (simp only [List.getElem?_toArray, List.getElem?_cons_zero, List.getElem?_cons_succ]; rfl)
      case st16 =>
      intro K hK
      refine step_append_lies W rfl (.tmp 50) (.tmp 52) 53 rfl base 37 Yba.t37 (.agg (locA 0)) 18 48 Yba.underlying53 info37 zero37 info_size37 info_bytes37 rfl (by decide) (.slice none 0 0) 0 fl rfl kown.out ⟨wc.heap.size, 0, none⟩ 1 1 news rfl (by rw [HNL.out]) knews.out HNO.out (by decide) k63.out kby.out kbs.out _ rfl ?_
      intro g cap w1 hown hgrow0 hat hlt
      have hgrow : W.grownBy w1 none := hgrow0
      have sa := hgrow.cell ka.out (by simp)
      have sb := hgrow.cell kb.out (by simp)
      have sr := kB.out w1 hgrow
      have sz := ksz.out w1 hgrow
      refine hK.out _ _ (Or.inr ⟨sa, sb, sr⟩) ?_
      clear hK K
      simp only [Act.put, List.setIfInBounds_toArray, List.set_cons_zero, List.set_cons_succ]
      refine wpAnyL_take (i := 17) (oi := ?oi17) (v := ?vv17) ?hi17 (by kernel_rfl) (by kernel_rfl) (by kernel_rfl) (by kernel_rfl) ?hq17 (Or.inl ⟨?hw17, ?hy17⟩) ⟨sa, sb, sr⟩ ?more17
      case hi17 => (simp only [List.getElem?_toArray, List.getElem?_cons_zero, List.getElem?_cons_succ]; rfl)
      case hq17 => exact fun _ _ _ h => h
      case hw17 => rfl
      case hy17 => (intro w2 hSw; obtain ⟨q1, q2, q3⟩ := hSw; go_simp; try with_reducible rfl)
      simp only [Act.put, List.setIfInBounds_toArray, List.set_cons_zero, List.set_cons_succ]
      refine wpAnyL_one (i := 18) (o := ?oi18) (by kernel_rfl) ?hi18 ?st18
      case hi18 => (simp only [List.getElem?_toArray, List.getElem?_cons_zero, List.getElem?_cons_succ]; rfl)
      case st18 =>
      intro K hK
      go_simp
      refine hK.out _ _ (Or.inl rfl) ?_
      clear hK K
      refine wpAnyL_done (by kernel_rfl) ?_ _
      go_wp2
      go_meet
      case rel => exact ⟨g, cap, w1, rfl, hown, hgrow, hat⟩
    case rest =>
      obtain ⟨g, cap, w1, rfl, hown, hgrow, hat⟩ := hcut
      have sn := hgrow.cell ((HGW2.out.cell_far ⟨rb, 3, none⟩ hrb (by simp)).trans nc) (by simp)
      have sf := (hgrow.frozen_far ⟨rb, 3, none⟩ (Nat.lt_of_lt_of_le hrb HGW2.out.size) (by simp)).trans ((HGW2.out.frozen_far ⟨rb, 3, none⟩ hrb (by simp)).trans nz)
      have HA := toHid (mid_put (v := .slice none 0 0) (x := news) (r := 0) H'.out HL'.out HF'.out HFP'.out HGW2.out (by rw [← HP.out]; exact HV.out) HNL.out rfl (by rw [← HP.out]; exact HCL.out.symm) (by rw [← HP.out, ← HFL.out]; exact hown) hgrow hat)
      rw [← HP.out] at HA
      have d1 := (World.cell?_setCell_other w1 ⟨pg, p, none⟩ ⟨rb, 3, none⟩ (.slice (some ⟨g, 0, none⟩) (0 + 1) cap) (by simp <;> omega)).trans sn
      clear hown hgrow hat
      go_wp2
      go_end0
      exact ⟨rfl, addpost_pre HGW.out HA.out hrb0⟩

theorem addL {base rb : Nat} {E : List (List Value)} {hdr : Value} {pv : List Value} (s : Int) (w0 : World)
    (h0 : PL w0 base 37 53 18 rb 2 E hdr pv) (hn : E.length ≤ 1048576) (hnp : pv.length = (E.length + 4095) / 4096) :
    Calls Yba.prog 12 #[.pointer (some ⟨rb, 2, none⟩), .agg (locA s)] w0 fun e w' => e = .returned (.tuple #[]) ∧ AddPost base 37 53 18 rb 2 E (locA s).toList hdr pv w0 w' := by
  by_cases h : 0 < E.length
  · exact addL_some (locA s).toList rfl (locA_one s) w0 h0 hn hnp h
  · exact addL_nil (locA s).toList rfl (locA_one s) w0 h0 hn hnp (by omega)
end Go.Proofs.Ybulkefgq
