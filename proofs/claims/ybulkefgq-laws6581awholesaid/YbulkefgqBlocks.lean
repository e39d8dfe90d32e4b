/-
  The closures of blocksOf (14, 15) and blocksOf (5): both indexes part the ends.
-/
import Derived.Test.YbulkefgqSearch
namespace Go.Proofs.Ybulkefgq
open Go.RowKit

/-- The items of a list of numbers. -/
def ints (xs : List Int) : List (List Value) := xs.map fun x => [.int .i64 x]
theorem ints_length (xs : List Int) : (ints xs).length = xs.length := by simp [ints]
theorem ints_at {xs : List Int} {i : Nat} (h : i < xs.length) : ((ints xs)[i]?).bind (fun x => x[0]?) = some (.int .i64 (xs.getD i 0)) := by
  simp [ints, List.getD_eq_getElem?_getD, List.getElem?_eq_getElem h]

set_option maxHeartbeats 1000000 in
theorem clos14 {base rb : Nat} {xs : List Int} {hdr : Value} {pv : List Value} {w : World} (h : PL w base 2 31 1 rb 0 (ints xs) hdr pv) (hn : xs.length ≤ 1048576) (pos : Int) (b1 b2 : Nat)
    (c1 : w.cell? ⟨b1, 0, none⟩ = some (.pointer (some ⟨rb, 0, none⟩))) (c2 : w.cell? ⟨b2, 0, none⟩ = some (.int .i64 pos)) (k : Nat) (hk : k < xs.length) :
    Calls Yba.prog 14 #[.int .i64 k, .pointer (some ⟨b1, 0, none⟩), .pointer (some ⟨b2, 0, none⟩)] w fun e w' => e = .returned (.bool (decide (pos < xs.getD k 0))) ∧ ∃ m, w' = w.drewN m := by
  obtain ⟨a, ha, hcall⟩ := atE h k (by rw [ints_length]; exact hk) (by rw [ints_length]; exact hn)
  rw [ints_at hk] at ha
  have HC := toHid hcall
  clear hcall h
  generalize xs.getD k 0 = y at *
  go_enter Yba.func14, Yba.ntmps14
  go_wp2
  go_quiet ((go_at_call 7; exact Calls.quiet_of_same (HC.out _)))
  go_wp2
  go_ret
  exact ⟨rfl, _, rfl⟩

set_option maxHeartbeats 1000000 in
theorem clos15 {base rb : Nat} {xs : List Int} {hdr : Value} {pv : List Value} {w : World} (h : PL w base 2 31 1 rb 0 (ints xs) hdr pv) (hn : xs.length ≤ 1048576) (pos size : Int) (b1 b2 b3 : Nat)
    (c1 : w.cell? ⟨b1, 0, none⟩ = some (.pointer (some ⟨rb, 0, none⟩))) (c2 : w.cell? ⟨b2, 0, none⟩ = some (.int .i64 pos)) (c3 : w.cell? ⟨b3, 0, none⟩ = some (.int .i64 size)) (k : Nat) (hk : k < xs.length) :
    Calls Yba.prog 15 #[.int .i64 k, .pointer (some ⟨b1, 0, none⟩), .pointer (some ⟨b2, 0, none⟩), .pointer (some ⟨b3, 0, none⟩)] w fun e w' => e = .returned (.bool (decide (wrap64 (pos + size) ≤ xs.getD k 0))) ∧ ∃ m, w' = w.drewN m := by
  obtain ⟨a, ha, hcall⟩ := atE h k (by rw [ints_length]; exact hk) (by rw [ints_length]; exact hn)
  rw [ints_at hk] at ha
  have HC := toHid hcall
  clear hcall h
  generalize xs.getD k 0 = y at *
  go_enter Yba.func15, Yba.ntmps15
  go_wp2
  go_quiet ((go_at_call 7; exact Calls.quiet_of_same (HC.out _)))
  go_wp2
  go_ret
  exact ⟨rfl, _, rfl⟩

/-- Each number is greater than the one before it. -/
def Up (xs : List Int) : Prop := ∀ a b : Nat, a < b → b < xs.length → xs.getD a 0 < xs.getD b 0
/-- c parts xs: below it 'no', from it on 'yes'. -/
def Parts (xs : List Int) (g : Int → Bool) (c : Nat) : Prop := c ≤ xs.length ∧ (∀ k, k < c → g (xs.getD k 0) = false) ∧ (∀ k, c ≤ k → k < xs.length → g (xs.getD k 0) = true)

set_option maxHeartbeats 1000000 in
theorem blocksOf_any {base rb : Nat} {xs : List Int} {hdr : Value} {pv : List Value} {w : World} (h : PL w base 2 31 1 rb 0 (ints xs) hdr pv) (hn : xs.length ≤ 1048576) (hup : Up xs) (pos size : Int) :
    Calls Yba.prog 5 #[.pointer (some ⟨rb, 0, none⟩), .int .i64 pos, .int .i64 size] w fun e w' => ∃ c d : Nat, e = .returned (.tuple #[.int .i64 c, .int .i64 d]) ∧ w.grownBy w' none ∧
      Parts xs (fun y => decide (pos < y)) c ∧ Parts xs (fun y => decide (wrap64 (pos + size) ≤ y)) d := by
  have hmf : ∀ (fn : Fn) (first cap : Array Value) (w : World), (Instr.makeFunc fn first cap).run Yba.prog w = .ok (.func fn first cap) w := fun _ _ _ _ => rfl
  go_enter Yba.func5, Yba.ntmps5
  go_wp2_with fail
  obtain ⟨W, hW⟩ : ∃ W, W = (((w.alloc (.cells #[.pointer (some ⟨rb, 0, none⟩)] 47)).alloc (.cells #[.int .i64 pos] 2)).alloc (.cells #[.int .i64 size] 2)) := ⟨_, rfl⟩
  have hg : w.grownBy W none := by rw [hW]; exact grownBy_trans (World.grownBy_alloc w _ none) (grownBy_trans (World.grownBy_alloc _ _ none) (World.grownBy_alloc _ _ none))
  have s1 : (w.alloc (.cells #[.pointer (some ⟨rb, 0, none⟩)] 47)).heap.size = w.heap.size + 1 := World.size_alloc _ _
  have s2 : ((w.alloc (.cells #[.pointer (some ⟨rb, 0, none⟩)] 47)).alloc (.cells #[.int .i64 pos] 2)).heap.size = w.heap.size + 1 + 1 := by rw [World.size_alloc, s1]
  have c1 : W.cell? ⟨w.heap.size, 0, none⟩ = some (.pointer (some ⟨rb, 0, none⟩)) := by
    rw [hW, World.cell?_alloc_lt _ _ _ (by rw [s2]; show w.heap.size < _; omega), World.cell?_alloc_lt _ _ _ (by rw [s1]; show w.heap.size < _; omega)]
    unfold World.cell?; rw [(MapKept.heap_alloc w _).1]; rfl
  have c2 : W.cell? ⟨w.heap.size + 1, 0, none⟩ = some (.int .i64 pos) := by
    rw [hW, World.cell?_alloc_lt _ _ _ (by rw [s2]; show w.heap.size + 1 < _; omega)]
    have := (MapKept.heap_alloc (w.alloc (.cells #[.pointer (some ⟨rb, 0, none⟩)] 47)) (.cells #[.int .i64 pos] 2)).1
    rw [s1] at this
    unfold World.cell?; rw [this]; rfl
  have c3 : W.cell? ⟨w.heap.size + 1 + 1, 0, none⟩ = some (.int .i64 size) := by
    rw [hW]
    have := (MapKept.heap_alloc ((w.alloc (.cells #[.pointer (some ⟨rb, 0, none⟩)] 47)).alloc (.cells #[.int .i64 pos] 2)) (.cells #[.int .i64 size] 2)).1
    rw [s2] at this
    unfold World.cell?; rw [this]; rfl
  rw [← hW]
  have hP := h.grown hg
  have HP := toHid hP
  have HG := toHid hg
  have HU := toHid hup
  clear hW s1 s2 hP hg h hup
  refine (lenE W HP.out).mono ?_
  rintro e w1 ⟨rfl, rfl⟩
  rw [ints_length]
  go_wp2_with fail
  refine (search14 xs.length hn _ _ w1 (fun k => decide (pos < xs.getD k 0)) (fun k nq hk => ?_) (fun a b hab hb => ?_)).mono ?_
  · refine (clos14 (HP.out.grown (grownBy_drewN w1 nq none)) hn pos _ _ c1 c2 k hk).mono ?_
    rintro e w' ⟨rfl, m, rfl⟩
    exact ⟨rfl, _, World.drewN_drewN _ _ _⟩
  · rcases Nat.lt_or_ge a b with h1 | h1
    · have := HU.out a b h1 hb
      simp only [decide_eq_true_eq]; omega
    · obtain rfl : a = b := by omega
      exact id
  rintro e w2 ⟨c, m, rfl, rfl, hc1, hc2, hc3⟩
  have HC := toHid (show Parts xs (fun y => decide (pos < y)) c from ⟨hc1, hc2, hc3⟩)
  clear hc2 hc3
  go_wp2_with fail
  refine (search15 xs.length hn _ _ _ (w1.drewN m) (fun k => decide (wrap64 (pos + size) ≤ xs.getD k 0)) (fun k nq hk => ?_) (fun a b hab hb => ?_)).mono ?_
  · refine (clos15 ((HP.out.grown (grownBy_drewN w1 m none)).grown (grownBy_drewN (w1.drewN m) nq none)) hn pos size _ _ _ c1 c2 c3 k hk).mono ?_
    rintro e w' ⟨rfl, m, rfl⟩
    exact ⟨rfl, _, World.drewN_drewN _ _ _⟩
  · rcases Nat.lt_or_ge a b with h1 | h1
    · have := HU.out a b h1 hb
      simp only [decide_eq_true_eq]; omega
    · obtain rfl : a = b := by omega
      exact id
  rintro e w3 ⟨d, m2, rfl, rfl, hd1, hd2, hd3⟩
  have HD := toHid (show Parts xs (fun y => decide (wrap64 (pos + size) ≤ y)) d from ⟨hd1, hd2, hd3⟩)
  clear hd2 hd3
  go_wp2_with fail
  go_ret2
  exact ⟨c, d, rfl, grownBy_trans HG.out (grownBy_drewN w1 (m + m2) none), HC.out, HD.out⟩
end Go.Proofs.Ybulkefgq
