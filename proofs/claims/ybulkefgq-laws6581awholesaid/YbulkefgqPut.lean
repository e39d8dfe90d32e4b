/-
  A paged list: a page more ('push'), an item more ('put'): the list behind the stores, and what stands outside its footprint.
-/
import Derived.Test.YbulkefgqPaged
namespace Go.Proofs.Ybulkefgq
open Go.RowKit

variable {w w' : World} {base e te sz rb off : Nat} {E : List (List Value)} {hdr : Value} {pv : List Value}

theorem grownBy_setCell (w : World) (b o : Nat) (v : Value) : w.grownBy (w.setCell ⟨b, o, none⟩ v) (some b) :=
  ⟨rfl, rfl, rfl, by simp, fun k _ hne => Below.heap_setCell _ _ _ _ (fun e => hne (by rw [e]))⟩
theorem grownBy_refl (a : World) (row : Option Nat) : a.grownBy a row := ⟨rfl, rfl, rfl, Nat.le_refl _, fun _ _ _ => rfl⟩
theorem grownBy_trans {a b c : World} {row : Option Nat} (h : a.grownBy b row) (k : b.grownBy c row) : a.grownBy c row :=
  ⟨k.os.trans h.os, k.tape.trans h.tape, k.output.trans h.output, Nat.le_trans h.size k.size, fun j hj hne => (k.block j (Nat.lt_of_lt_of_le hj h.size) hne).trans (h.block j hj hne)⟩
theorem grownBy_drew (w : World) (row : Option Nat) : w.grownBy w.drew row := ⟨rfl, rfl, rfl, Nat.le_refl _, fun _ _ _ => rfl⟩

theorem PL.push (h : PL w base e te sz rb off E hdr pv) (hfull : E.length = 4096 * pv.length) {room : Value} (hroom : w.ownsRow base e sz room 0 [])
    (hfr : ∀ k, room.ownBlock = some k → ¬ inF hdr pv k) (hrn : room.ownBlock = none → pv = []) {w1 : World} {g cap : Nat}
    (hown : w1.ownsRow base te 1 (.slice (some ⟨g, 0, none⟩) (pv.length + 1) cap) (pv.length + 1) (pv ++ [room])) (hg : w.grownBy w1 hdr.ownBlock) (hat : hdr.ownBlock = some g ∨ g = w.heap.size) :
    PL (w1.setCell ⟨rb, off, none⟩ (.slice (some ⟨g, 0, none⟩) (pv.length + 1) cap)) base e te sz rb off E (.slice (some ⟨g, 0, none⟩) (pv.length + 1) cap) (pv ++ [room]) ∧
    Fr rb off (inF hdr pv) w (w1.setCell ⟨rb, off, none⟩ (.slice (some ⟨g, 0, none⟩) (pv.length + 1) cap)) ∧
    (∀ k, inF (.slice (some ⟨g, 0, none⟩) (pv.length + 1) cap) (pv ++ [room]) k → inF hdr pv k ∨ room.ownBlock = some k ∨ w.heap.size ≤ k) := by
  have hlow := h.low
  have hrbne : some rb ≠ hdr.ownBlock := fun e1 => by have := (h.own.lt rb e1.symm).1; omega
  have hrb := h.rb_lt
  have hc1 : w1.cell? ⟨rb, off, none⟩ = some hdr := hg.cell h.hc hrbne
  have old : ∀ (i : Nat) (v : Value), pv[i]? = some v → v.ownBlock ≠ some g := fun i v hv e1 => by
    rcases hat with hat | hat
    · exact h.dist0 i v hv (e1.trans hat.symm)
    · have := ((h.page i v hv).lt g e1).2; omega
  have new : room.ownBlock ≠ some g := fun e1 => by
    rcases hat with hat | hat
    · exact hfr g e1 (Or.inl hat)
    · have := (hroom.lt g e1).2; omega
  have rnew : ∀ (i : Nat) (v : Value), pv[i]? = some v → v.ownBlock ≠ room.ownBlock := fun i v hv e1 => by
    cases hr : room.ownBlock with
    | none => rw [hrn hr] at hv; simp at hv
    | some k => exact hfr k hr (Or.inr ⟨v, List.mem_of_getElem? hv, e1.trans hr⟩)
  have get : ∀ (i : Nat) (v : Value), (pv ++ [room])[i]? = some v → pv[i]? = some v ∨ (i = pv.length ∧ v = room) := fun i v hv => by
    by_cases hi : i < pv.length
    · rw [List.getElem?_append_left hi] at hv; exact Or.inl hv
    · rw [List.getElem?_append_right (by omega)] at hv
      by_cases h0 : i - pv.length = 0
      · rw [h0] at hv; simp at hv; exact Or.inr ⟨by omega, hv.symm⟩
      · obtain ⟨m, hm⟩ : ∃ m, i - pv.length = m + 1 := ⟨i - pv.length - 1, by omega⟩
        rw [hm] at hv; simp at hv
  refine ⟨⟨h.el, World.cell?_setCell_same _ _ _ hc1, ?_, ?_, ?_, ?_, ?_, ?_, ?_, ?_, hlow, ?_⟩, ?_, ?_⟩
  · exact (World.cell?_setCell_other _ _ _ _ (by simp)).trans (hg.cell h.nc hrbne)
  · rw [World.frozen?_setCell, hg.frozen_far ⟨rb, off, none⟩ hrb hrbne]; exact h.hz
  · rw [World.frozen?_setCell, hg.frozen_far ⟨rb, off + 1, none⟩ hrb hrbne]; exact h.nz
  · rw [List.length_append, List.length_singleton]; exact ownsRow_setCell_below hown (a := ⟨rb, off, none⟩) hlow _
  · rw [List.length_append, List.length_singleton]; omega
  · intro k v hv
    rcases get k v hv with hv | ⟨rfl, rfl⟩
    · exact ownsRow_setCell_below ((h.page k v hv).kept hg (Or.inr (h.dist0 k v hv))) (a := ⟨rb, off, none⟩) hlow _
    · have hch : chunk pv.length E = [] := by
        unfold chunk; rw [List.drop_eq_nil_of_le (by omega)]; rfl
      rw [hch]
      refine ownsRow_setCell_below (hroom.kept hg ?_) (a := ⟨rb, off, none⟩) hlow _
      cases hr : v.ownBlock with
      | none => exact Or.inl rfl
      | some k => exact Or.inr (fun e1 => hfr k hr (Or.inl e1.symm))
  · intro i j v u hv hu hij
    rcases get i v hv with hv1 | ⟨hi, hv1⟩
    · rcases get j u hu with hu1 | ⟨hj, hu1⟩
      · exact h.dist i j v u hv1 hu1 hij
      · rw [hu1]; exact rnew i v hv1
    · rcases get j u hu with hu1 | ⟨hj, hu1⟩
      · rw [hv1]; exact fun e1 => rnew j u hu1 e1.symm
      · exact absurd (hi.trans hj.symm) hij
  · intro i v hv
    rcases get i v hv with hv | ⟨rfl, rfl⟩
    · exact old i v hv
    · exact new
  · simp only [World.size_setCell]; exact Nat.le_trans h.baseLe hg.size
  · exact (Fr.grown hg hrb hrbne (fun k hk => Or.inl hk)).trans (Fr.set (fp := inF hdr pv) w1 off _ (Or.inl rfl)) (fun j hj => Or.inl hj)
  · rintro k (hk | ⟨v, hv, hk⟩)
    · have hk' : g = k := by simpa [Value.ownBlock] using hk
      subst hk'
      rcases hat with hat | hat
      · exact Or.inl (Or.inl hat)
      · exact Or.inr (Or.inr (by omega))
    · rcases List.mem_append.1 hv with hv | hv
      · exact Or.inl (Or.inr ⟨v, hv, hk⟩)
      · rw [List.mem_singleton] at hv; subst hv
        exact Or.inr (Or.inl hk)

theorem PL.put (h : PL w base e te sz rb off E hdr pv) {v : Value} (hv : pv[E.length / 4096]? = some v) {x : List Value} (hx : x.length = sz) {pg pc : Nat} (hh : hdr = .slice (some ⟨pg, 0, none⟩) pv.length pc)
    {w1 : World} {r g cap : Nat} (hr : r = (chunk (E.length / 4096) E).length)
    (hown : w1.ownsRow base e sz (.slice (some ⟨g, 0, none⟩) (r + 1) cap) (r + 1) ((chunk (E.length / 4096) E).flatten ++ x)) (hg : w.grownBy w1 v.ownBlock) (hat : v.ownBlock = some g ∨ g = w.heap.size) :
    PL ((w1.setCell ⟨pg, E.length / 4096, none⟩ (.slice (some ⟨g, 0, none⟩) (r + 1) cap)).setCell ⟨rb, off + 1, none⟩ (.int .i64 (E.length + 1))) base e te sz rb off (E ++ [x]) hdr (pv.set (E.length / 4096) (.slice (some ⟨g, 0, none⟩) (r + 1) cap)) ∧
    Fr rb off (inF hdr pv) w ((w1.setCell ⟨pg, E.length / 4096, none⟩ (.slice (some ⟨g, 0, none⟩) (r + 1) cap)).setCell ⟨rb, off + 1, none⟩ (.int .i64 (E.length + 1))) ∧
    (∀ k, inF hdr (pv.set (E.length / 4096) (.slice (some ⟨g, 0, none⟩) (r + 1) cap)) k → inF hdr pv k ∨ w.heap.size ≤ k) := by
  have hlow := h.low
  have hrb := h.rb_lt
  have hp : E.length / 4096 < pv.length := (List.getElem?_eq_some_iff.1 hv).1
  have hvne : some rb ≠ v.ownBlock := fun e1 => by have := ((h.page _ v hv).lt rb e1.symm).1; omega
  have hpg : hdr.ownBlock = some pg := by rw [hh]; rfl
  have hpgl := h.own.lt pg hpg
  have hgpg : g ≠ pg := fun e1 => by
    rcases hat with hat | hat
    · exact h.dist0 _ v hv (by rw [hat, hpg, e1])
    · omega
  have hgn : ∀ (j : Nat) (u : Value), pv[j]? = some u → j ≠ E.length / 4096 → u.ownBlock ≠ some g := fun j u hu hj e1 => by
    rcases hat with hat | hat
    · exact h.dist j _ u v hu hv hj (e1.trans hat.symm)
    · have := ((h.page j u hu).lt g e1).2; omega
  have get : ∀ (k : Nat) (u : Value), (pv.set (E.length / 4096) (.slice (some ⟨g, 0, none⟩) (r + 1) cap))[k]? = some u → (k = E.length / 4096 ∧ u = .slice (some ⟨g, 0, none⟩) (r + 1) cap) ∨ (k ≠ E.length / 4096 ∧ pv[k]? = some u) := fun k u hu => by
    by_cases hk : k = E.length / 4096
    · subst hk
      rw [List.getElem?_set_self hp] at hu
      exact Or.inl ⟨rfl, (Option.some.inj hu).symm⟩
    · rw [List.getElem?_set_ne (fun e1 => hk e1.symm)] at hu
      exact Or.inr ⟨hk, hu⟩
  have hown1 : w1.ownsRow base te 1 hdr pv.length pv := h.own.kept hg (Or.inr (fun e1 => h.dist0 _ v hv e1.symm))
  rw [hh] at hown1
  obtain ⟨hst, hsg⟩ := hown1.stored (E.length / 4096) (.slice (some ⟨g, 0, none⟩) (r + 1) cap)
  have hrc : ∀ o, (w1.setCell ⟨pg, E.length / 4096, none⟩ (.slice (some ⟨g, 0, none⟩) (r + 1) cap)).cell? ⟨rb, o, none⟩ = w.cell? ⟨rb, o, none⟩ := fun o => by
    rw [World.cell?_setCell_other _ _ _ _ (by simp <;> omega), hg.cell_far ⟨rb, o, none⟩ hrb hvne]
  have hrf : ∀ o, (w1.setCell ⟨pg, E.length / 4096, none⟩ (.slice (some ⟨g, 0, none⟩) (r + 1) cap)).frozen? ⟨rb, o, none⟩ = w.frozen? ⟨rb, o, none⟩ := fun o => by
    rw [World.frozen?_setCell, hg.frozen_far ⟨rb, o, none⟩ hrb hvne]
  refine ⟨⟨?_, ?_, ?_, ?_, ?_, ?_, ?_, ?_, ?_, ?_, hlow, ?_⟩, ?_, ?_⟩
  · intro y hy
    rcases List.mem_append.1 hy with hy | hy
    · exact h.el y hy
    · rw [List.mem_singleton] at hy; subst hy; exact hx
  · rw [World.cell?_setCell_other _ _ _ _ (by simp), hrc]; exact h.hc
  · rw [List.length_append, List.length_singleton]
    exact World.cell?_setCell_same _ _ _ ((hrc _).trans h.nc)
  · rw [World.frozen?_setCell, hrf]; exact h.hz
  · rw [World.frozen?_setCell, hrf]; exact h.nz
  · rw [List.length_set, hh]
    exact ownsRow_setCell_below hst (a := ⟨rb, off + 1, none⟩) hlow _
  · have := h.full
    rw [List.length_append, List.length_singleton, List.length_set]; omega
  · intro k u hu
    rcases get k u hu with ⟨rfl, rfl⟩ | ⟨hk, hu⟩
    · rw [chunk_snoc_same, List.length_append, List.length_singleton, List.flatten_append, ← hr]
      have : (([x] : List (List Value)).flatten) = x := by simp
      rw [this]
      exact ownsRow_setCell_below (hown.kept hsg (Or.inr (by simp [Value.ownBlock]; omega))) (a := ⟨rb, off + 1, none⟩) hlow _
    · rw [chunk_snoc_other x hk]
      refine ownsRow_setCell_below (((h.page k u hu).kept hg (Or.inr (h.dist k _ u v hu hv hk))).kept hsg (Or.inr ?_)) (a := ⟨rb, off + 1, none⟩) hlow _
      rw [← hpg]; exact h.dist0 k u hu
  · intro i j a b ha hb hij
    rcases get i a ha with ⟨rfl, rfl⟩ | ⟨hi, ha⟩
    · rcases get j b hb with ⟨rfl, rfl⟩ | ⟨hj, hb⟩
      · exact absurd rfl hij
      · exact fun e1 => hgn j b hb hj e1.symm
    · rcases get j b hb with ⟨rfl, rfl⟩ | ⟨hj, hb⟩
      · exact hgn i a ha hi
      · exact h.dist i j a b ha hb hij
  · intro i a ha
    rcases get i a ha with ⟨rfl, rfl⟩ | ⟨hi, ha⟩
    · rw [hpg]; simp [Value.ownBlock]; omega
    · exact h.dist0 i a ha
  · simp only [World.size_setCell]; exact Nat.le_trans h.baseLe hg.size
  · have f1 : Fr rb off (inF hdr pv) w w1 := Fr.grown hg hrb hvne (fun k hk => Or.inr ⟨v, List.mem_of_getElem? hv, hk⟩)
    have f2 : Fr rb off (inF hdr pv) w1 (w1.setCell ⟨pg, E.length / 4096, none⟩ (.slice (some ⟨g, 0, none⟩) (r + 1) cap)) :=
      Fr.grown (grownBy_setCell _ _ _ _) (Nat.lt_of_lt_of_le hrb hg.size) (by simp; omega) (fun k hk => Or.inl (hpg.trans hk))
    exact (f1.trans f2 (fun j hj => Or.inl hj)).trans (Fr.set (fp := inF hdr pv) _ (off + 1) _ (Or.inr rfl)) (fun j hj => Or.inl hj)
  · rintro k (hk | ⟨u, hu, hk⟩)
    · exact Or.inl (Or.inl hk)
    · obtain ⟨i, hi⟩ := List.getElem?_of_mem hu
      rcases get i u hi with ⟨rfl, rfl⟩ | ⟨hi', hu'⟩
      · have hk' : g = k := by simpa [Value.ownBlock] using hk
        subst hk'
        rcases hat with hat | hat
        · exact Or.inl (Or.inr ⟨v, List.mem_of_getElem? hv, hat⟩)
        · exact Or.inr (by omega)
      · exact Or.inl (Or.inr ⟨u, List.mem_of_getElem? hu', hk⟩)
end Go.Proofs.Ybulkefgq
