/-
  The walk of sort.Search (13) at the two closures of blocksOf (14, 15): the least index at which a predicate that goes up once is true.
-/
import Derived.Test.YbulkefgqAt
namespace Go.Proofs.Ybulkefgq
open Go.RowKit
theorem below_false {n k hh : Nat} {g : Nat → Bool} (hm : ∀ a b : Nat, a ≤ b → b < n → g a = true → g b = true) (h1 : k ≤ hh) (h2 : hh < n) (hf : g hh = false) : g k = false := by
  cases hk2 : g k with
  | false => rfl
  | true => have := hm k hh h1 h2 hk2; rw [hf] at this; cases this

set_option maxHeartbeats 1000000 in
theorem search14 (n : Nat) (hn : n ≤ 1048576) (b1 b2 : Nat) (w : World) (g : Nat → Bool)
    (hcall : ∀ k nq : Nat, k < n → Calls Yba.prog 14 #[.int .i64 k, .pointer (some ⟨b1, 0, none⟩), .pointer (some ⟨b2, 0, none⟩)] (w.drewN nq) fun e w' => e = .returned (.bool (g k)) ∧ ∃ m, w' = w.drewN m)
    (hmono : ∀ a b : Nat, a ≤ b → b < n → g a = true → g b = true) :
    Calls Yba.prog 13 #[.int .i64 n, .func (.func 14) #[] #[.pointer (some ⟨b1, 0, none⟩), .pointer (some ⟨b2, 0, none⟩)]] w fun e w' => ∃ c m : Nat, e = .returned (.int .i64 c) ∧ w' = w.drewN m ∧ c ≤ n ∧ (∀ k, k < c → g k = false) ∧ (∀ k, c ≤ k → k < n → g k = true) := by
  have HC := toHid hcall
  have HM := toHid hmono
  clear hcall hmono
  go_enter Yba.func13, Yba.ntmps13
  go_wp2
  go_loopw [5, 6] (fun ti tj wr => ∃ i j nq : Nat, i ≤ j ∧ j ≤ n ∧ ti = .int .i64 i ∧ tj = .int .i64 j ∧ wr = w.drewN nq ∧ Hid ((∀ k, k < i → g k = false) ∧ (∀ k, j ≤ k → k < n → g k = true))) (fun ti tj _ => (intOf tj - intOf ti).toNat)
  case atStart => exact ⟨0, n, 0, by omega, by omega, rfl, rfl, rfl, ⟨fun k hk => absurd hk (by omega), fun k h1 h2 => absurd h1 (by omega)⟩⟩
  case round =>
    obtain ⟨i, j, nq, hij, hj, rfl, rfl, rfl, HI⟩ := hrel
    by_cases hlt : i < j
    · go_wp2_with fail
      rw [show (((i : Int) + (j : Int)) / 2) = (((i + j) / 2 : Nat) : Int) from by omega]
      obtain ⟨hh, hhe⟩ : ∃ hh, hh = (i + j) / 2 := ⟨_, rfl⟩
      rw [← hhe]
      have hb1 : i ≤ hh := by omega
      have hb2 : hh < j := by omega
      clear hhe
      refine (HC.out hh nq (by omega)).mono ?_
      rintro e w' ⟨rfl, m, rfl⟩
      by_cases hg : g hh = true
      · rw [hg]
        have HG := toHid hg
        clear hg
        go_wp2_with fail
        go_roundw
        case rel => exact ⟨i, hh, m, hb1, by omega, rfl, rfl, rfl, ⟨HI.out.1, fun k h1 h2 => HM.out hh k h1 h2 HG.out⟩⟩
        case measure => simp [intOf]; omega
      · have hg' : g hh = false := by simpa using hg
        rw [hg']
        have HG := toHid hg'
        clear hg hg'
        go_wp2_with fail
        go_roundw
        case rel => exact ⟨hh + 1, j, m, by omega, hj, by go_num, rfl, rfl, ⟨fun k hk => below_false HM.out (by omega) (by omega) HG.out, HI.out.2⟩⟩
        case measure => simp [intOf]; omega
    · go_wp2_with fail
      go_ret
      exact ⟨i, nq, rfl, rfl, by omega, HI.out.1, fun k h1 h2 => HI.out.2 k (by omega) h2⟩

set_option maxHeartbeats 1000000 in
theorem search15 (n : Nat) (hn : n ≤ 1048576) (b1 b2 b3 : Nat) (w : World) (g : Nat → Bool)
    (hcall : ∀ k nq : Nat, k < n → Calls Yba.prog 15 #[.int .i64 k, .pointer (some ⟨b1, 0, none⟩), .pointer (some ⟨b2, 0, none⟩), .pointer (some ⟨b3, 0, none⟩)] (w.drewN nq) fun e w' => e = .returned (.bool (g k)) ∧ ∃ m, w' = w.drewN m)
    (hmono : ∀ a b : Nat, a ≤ b → b < n → g a = true → g b = true) :
    Calls Yba.prog 13 #[.int .i64 n, .func (.func 15) #[] #[.pointer (some ⟨b1, 0, none⟩), .pointer (some ⟨b2, 0, none⟩), .pointer (some ⟨b3, 0, none⟩)]] w fun e w' => ∃ c m : Nat, e = .returned (.int .i64 c) ∧ w' = w.drewN m ∧ c ≤ n ∧ (∀ k, k < c → g k = false) ∧ (∀ k, c ≤ k → k < n → g k = true) := by
  have HC := toHid hcall
  have HM := toHid hmono
  clear hcall hmono
  go_enter Yba.func13, Yba.ntmps13
  go_wp2
  go_loopw [5, 6] (fun ti tj wr => ∃ i j nq : Nat, i ≤ j ∧ j ≤ n ∧ ti = .int .i64 i ∧ tj = .int .i64 j ∧ wr = w.drewN nq ∧ Hid ((∀ k, k < i → g k = false) ∧ (∀ k, j ≤ k → k < n → g k = true))) (fun ti tj _ => (intOf tj - intOf ti).toNat)
  case atStart => exact ⟨0, n, 0, by omega, by omega, rfl, rfl, rfl, ⟨fun k hk => absurd hk (by omega), fun k h1 h2 => absurd h1 (by omega)⟩⟩
  case round =>
    obtain ⟨i, j, nq, hij, hj, rfl, rfl, rfl, HI⟩ := hrel
    by_cases hlt : i < j
    · go_wp2_with fail
      rw [show (((i : Int) + (j : Int)) / 2) = (((i + j) / 2 : Nat) : Int) from by omega]
      obtain ⟨hh, hhe⟩ : ∃ hh, hh = (i + j) / 2 := ⟨_, rfl⟩
      rw [← hhe]
      have hb1 : i ≤ hh := by omega
      have hb2 : hh < j := by omega
      clear hhe
      refine (HC.out hh nq (by omega)).mono ?_
      rintro e w' ⟨rfl, m, rfl⟩
      by_cases hg : g hh = true
      · rw [hg]
        have HG := toHid hg
        clear hg
        go_wp2_with fail
        go_roundw
        case rel => exact ⟨i, hh, m, hb1, by omega, rfl, rfl, rfl, ⟨HI.out.1, fun k h1 h2 => HM.out hh k h1 h2 HG.out⟩⟩
        case measure => simp [intOf]; omega
      · have hg' : g hh = false := by simpa using hg
        rw [hg']
        have HG := toHid hg'
        clear hg hg'
        go_wp2_with fail
        go_roundw
        case rel => exact ⟨hh + 1, j, m, by omega, hj, by go_num, rfl, rfl, ⟨fun k hk => below_false HM.out (by omega) (by omega) HG.out, HI.out.2⟩⟩
        case measure => simp [intOf]; omega
    · go_wp2_with fail
      go_ret
      exact ⟨i, nq, rfl, rfl, by omega, HI.out.1, fun k h1 h2 => HI.out.2 k (by omega) h2⟩
end Go.Proofs.Ybulkefgq
