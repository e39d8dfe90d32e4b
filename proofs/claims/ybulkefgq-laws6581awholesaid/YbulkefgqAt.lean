/-
  The walks of len (6, 8), at (7, 9) and of the law's own helper (10).
-/
import Derived.Test.YbulkefgqAddE
namespace Go.Proofs.Ybulkefgq
open Go.RowKit

set_option maxHeartbeats 400000 in
theorem lenE {base e te sz rb : Nat} {E : List (List Value)} {hdr : Value} {pv : List Value} (w : World) (h : PL w base e te sz rb 0 E hdr pv) :
    Calls Yba.prog 6 #[.pointer (some ⟨rb, 0, none⟩)] w fun e w' => e = .returned (.int .i64 E.length) ∧ w' = w := by
  have nc := h.nc
  clear h
  simp only [Nat.zero_add] at nc
  go_enter Yba.func6, Yba.ntmps6
  go_wp2
  go_ret
  exact ⟨rfl, rfl⟩
set_option maxHeartbeats 400000 in
theorem lenL {base e te sz rb : Nat} {E : List (List Value)} {hdr : Value} {pv : List Value} (w : World) (h : PL w base e te sz rb 2 E hdr pv) :
    Calls Yba.prog 8 #[.pointer (some ⟨rb, 2, none⟩)] w fun e w' => e = .returned (.int .i64 E.length) ∧ w' = w := by
  have nc := h.nc
  clear h
  simp only [Nat.reduceAdd] at nc
  go_enter Yba.func8, Yba.ntmps8
  go_wp2
  go_ret
  exact ⟨rfl, rfl⟩

set_option maxHeartbeats 1000000 in
theorem atE_walk (rb pg pc np g gc len i p r : Nat) (W : World) (hc : W.cell? ⟨rb, 0, none⟩ = some (.slice (some ⟨pg, 0, none⟩) np pc)) (hcell : W.cell? ⟨pg, p, none⟩ = some (.slice (some ⟨g, 0, none⟩) len gc))
    (hp : p = i / 4096) (hr : r = i % 4096) (hk : p < np) (hlen : r < len) (hi : i ≤ 1048576) :
    Calls Yba.prog 7 #[.pointer (some ⟨rb, 0, none⟩), .int .i64 i] W fun e w' => e = .returned (.pointer (some ⟨g, r, none⟩)) ∧ w' = W := by
  have e1 : ((i : Int) / 4096) = (p : Int) := by omega
  have e2 : ((i : Int) % 4096) = (r : Int) := by omega
  clear hp hr
  have hpl : (p : Int) < (np : Int) := by omega
  have hrl : (r : Int) < (len : Int) := by omega
  go_enter Yba.func7, Yba.ntmps7
  go_wp2
  go_ret
  exact ⟨rfl, rfl⟩
/-- The i-th item: its address, the same in whatever world differs by draws alone. -/
theorem atE {base rb : Nat} {E : List (List Value)} {hdr : Value} {pv : List Value} {w : World} (h : PL w base 2 31 1 rb 0 E hdr pv) (i : Nat) (hi : i < E.length) (hn : E.length ≤ 1048576) :
    ∃ a : Addr, w.cell? a = (E[i]?).bind (fun x => x[0]?) ∧ ∀ nq, Calls Yba.prog 7 #[.pointer (some ⟨rb, 0, none⟩), .int .i64 i] (w.drewN nq) fun e w' => e = .returned (.pointer (some a)) ∧ w' = w.drewN nq := by
  have hc := h.hc
  obtain ⟨pg, pc, g, gc, len, rfl, hk, hcell, hlen, hget⟩ := h.at hi
  exact ⟨⟨g, i % 4096, none⟩, by simpa using hget 0 (by decide), fun nq => atE_walk rb pg pc _ g gc len i _ _ (w.drewN nq) hc hcell rfl rfl hk hlen (by omega)⟩
set_option maxHeartbeats 1000000 in
theorem atL_walk (rb pg pc np g gc len i p r : Nat) (W : World) (hc : W.cell? ⟨rb, 2, none⟩ = some (.slice (some ⟨pg, 0, none⟩) np pc)) (hcell : W.cell? ⟨pg, p, none⟩ = some (.slice (some ⟨g, 0, none⟩) len gc))
    (hp : p = i / 4096) (hr : r = i % 4096) (hk : p < np) (hlen : r < len) (hi : i ≤ 1048576) :
    Calls Yba.prog 9 #[.pointer (some ⟨rb, 2, none⟩), .int .i64 i] W fun e w' => e = .returned (.pointer (some ⟨g, r * 18, none⟩)) ∧ w' = W := by
  have e1 : ((i : Int) / 4096) = (p : Int) := by omega
  have e2 : ((i : Int) % 4096) = (r : Int) := by omega
  clear hp hr
  have hpl : (p : Int) < (np : Int) := by omega
  have hrl : (r : Int) < (len : Int) := by omega
  go_enter Yba.func9, Yba.ntmps9
  go_wp2
  go_ret
  exact ⟨rfl, rfl⟩
theorem atL {base rb : Nat} {E : List (List Value)} {hdr : Value} {pv : List Value} {w : World} (h : PL w base 37 53 18 rb 2 E hdr pv) (i : Nat) (hi : i < E.length) (hn : E.length ≤ 1048576) :
    ∃ g o : Nat, w.cell? ⟨g, o + 16, none⟩ = (E[i]?).bind (fun x => x[16]?) ∧ ∀ nq, Calls Yba.prog 9 #[.pointer (some ⟨rb, 2, none⟩), .int .i64 i] (w.drewN nq) fun e w' => e = .returned (.pointer (some ⟨g, o, none⟩)) ∧ w' = w.drewN nq := by
  have hc := h.hc
  obtain ⟨pg, pc, g, gc, len, rfl, hk, hcell, hlen, hget⟩ := h.at hi
  exact ⟨g, i % 4096 * 18, hget 16 (by decide), fun nq => atL_walk rb pg pc _ g gc len i _ _ (w.drewN nq) hc hcell rfl rfl hk hlen (by omega)⟩

set_option maxHeartbeats 1000000 in
theorem prevAt {base : Nat} {xs : List Int} {g cap : Nat} (w : World) (h : w.ownsRow base 2 1 (.slice (some ⟨g, 0, none⟩) xs.length cap) xs.length (xs.map (Value.int .i64))) (i : Nat) (hi : i < xs.length) (hn : xs.length ≤ 1048576) :
    Calls Yba.prog 10 #[.slice (some ⟨g, 0, none⟩) xs.length cap, .int .i64 i] w fun e w' => e = .returned (.int .i64 (if i = 0 then 0 else xs.getD (i - 1) 0)) ∧ w' = w := by
  by_cases h0 : i = 0
  · subst h0
    rw [show (((0 : Nat) : Int)) = (0 : Int) from rfl]
    go_enter Yba.func10, Yba.ntmps10
    go_wp2
    go_ret
    exact ⟨rfl, rfl⟩
  · obtain ⟨j, rfl⟩ : ∃ j, i = j + 1 := ⟨i - 1, by omega⟩
    have hcell : w.cell? ⟨g, j, none⟩ = some (.int .i64 (xs.getD j 0)) := by
      rw [h.cellAt j (by omega)]
      simp [List.getD_eq_getElem?_getD, List.getElem?_eq_getElem (show j < xs.length by omega)]
    have hz : (((j + 1 : Nat) : Int) == 0) = false := by simp; omega
    have hjl : (j : Int) < (xs.length : Int) := by omega
    have he : (((j + 1 : Nat) : Int)) = (j : Int) + 1 := by omega
    rw [if_neg h0, show j + 1 - 1 = j from rfl]
    rw [he] at hz ⊢
    clear h h0 he hi
    go_enter Yba.func10, Yba.ntmps10
    go_wp2
    go_ret
    exact ⟨rfl, rfl⟩
end Go.Proofs.Ybulkefgq
