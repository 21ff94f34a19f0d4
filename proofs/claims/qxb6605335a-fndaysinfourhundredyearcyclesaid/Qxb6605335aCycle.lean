/-
  FnDaysInFourHundredYearCycle: the walk.
-/
import Derived.Test.Qxb6605335aDays
import Derived.OpenShut
namespace Go.Proofs.Qxb6605335a.fnDaysInFourHundredYearCycle
open Go.RowKit

theorem rel_next (s k L : Int) (h : L = Cal.cnt (s + k) - Cal.cnt s) : L + Cal.lp (s + k) = Cal.cnt (s + (k + 1)) - Cal.cnt s := by
  have := Cal.cnt_succ (s + k)
  rw [show s + (k + 1) = s + k + 1 by omega]; omega

set_option maxRecDepth 20000 in
set_option maxHeartbeats 1000000 in
theorem core_neg (s : Int) (lo : -9223372036854775808 ≤ s) (hp : s ≤ 0) (w : World) :
    Calls Try.prog 6 #[.int .i64 s] w fun e w' => e = .returned (.bool true) ∧ Grown w w' := by
  go_enter Try.func6, Try.ntmps6
  go_wp2
  go_loop [4, 5, 6] (fun t l k => ∃ (n : Nat) (L : Int), n ≤ 400 ∧ 0 ≤ L ∧ L ≤ n ∧ Hid (L = Cal.cnt (s + n) - Cal.cnt s) ∧ k = .int .i64 n ∧ l = .int .i64 L ∧ t = .int .i64 (365 * n + L)) (fun _ _ k => 400 - (intOf k).toNat)
  case atStart => exact ⟨0, 0, by omega, by omega, by omega, by unfold Hid; simp, rfl, rfl, rfl⟩
  case round =>
    obtain ⟨n, L, hn, hL0, hLn, HL, rfl, rfl, rfl⟩ := hrel
    by_cases hlt : n < 400
    · have hlp := Cal.lp_01 (s + n)
      go_wp2
      go_loop [8, 9] (fun u m => ∃ j : Int, 1 ≤ j ∧ j ≤ 13 ∧ m = .int .i64 j ∧ u = .int .i64 (Cal.cum j (s + n))) (fun _ m => (13 - intOf m).toNat)
      case atStart => exact ⟨1, by omega, by omega, rfl, rfl⟩
      case round =>
        obtain ⟨j, hj1, hj2, rfl, rfl⟩ := hrel
        have hcb := Cal.cum_bd j (s + n) hj1 hj2
        by_cases hj : j ≤ 12
        · have hdb := Cal.dim_bd j (s + n)
          have HC : Hid (Cal.cum (j + 1) (s + n) = Cal.cum j (s + n) + Cal.dim j (s + n)) := Cal.cum_succ j (s + n) hj1 hj
          go_wp2_with (go_at_call 14; refine (zzdaysIn_any _ _ _).mono ?_; rintro e w' ⟨rfl, rfl⟩)
          go_round
          case rel => exact ⟨j + 1, by omega, by omega, rfl, by rw [HC.out]⟩
          case measure => simp [intOf]; omega
        · obtain rfl : j = 13 := by omega
          clear hcb hj hj1 hj2
          rw [Cal.cum_end]
          rcases (show Cal.lp (s + n) = 0 ∨ Cal.lp (s + n) = 1 by omega) with h0 | h0
          all_goals
            have hN := rel_next s n L HL.out
            have hf := Cal.dim_feb (s + n)
            rw [h0] at hN hf ⊢
            have HN : Hid _ := hN
            clear h0 hlp hN
            simp at hf
            go_wp2_with (go_at_call 14; refine (zzdaysIn_any _ _ _).mono ?_; rintro e w' ⟨rfl, rfl⟩)
            go_round
            case rel => exact ⟨n + 1, _, by omega, by omega, by omega, HN, by go_num, by go_num, by go_num⟩
            case measure => simp [intOf]; omega
    · obtain rfl : n = 400 := by omega
      have h97 := Cal.cnt_400 s
      have hL := HL.out
      rw [show ((400 : Nat) : Int) = 400 from rfl] at hL
      obtain rfl : L = 97 := by omega
      clear hL h97 HL
      go_wp2
      go_ret
      exact ⟨rfl, Grown.refl _⟩

set_option maxRecDepth 20000 in
set_option maxHeartbeats 1000000 in
theorem core_pos (s : Int) (lo : 0 < s + 399) (hi : s + 399 ≤ 9223372036854775807) (w : World) :
    Calls Try.prog 6 #[.int .i64 (s + 399)] w fun e w' => e = .returned (.bool true) ∧ Grown w w' := by
  go_enter Try.func6, Try.ntmps6
  go_wp2
  go_loop [4, 5, 6] (fun t l k => ∃ (n : Nat) (L : Int), n ≤ 400 ∧ 0 ≤ L ∧ L ≤ n ∧ Hid (L = Cal.cnt (s + n) - Cal.cnt s) ∧ k = .int .i64 n ∧ l = .int .i64 L ∧ t = .int .i64 (365 * n + L)) (fun _ _ k => 400 - (intOf k).toNat)
  case atStart => exact ⟨0, 0, by omega, by omega, by omega, by unfold Hid; simp, rfl, rfl, rfl⟩
  case round =>
    obtain ⟨n, L, hn, hL0, hLn, HL, rfl, rfl, rfl⟩ := hrel
    by_cases hlt : n < 400
    · have hlp := Cal.lp_01 (s + n)
      go_wp2
      go_loop [8, 9] (fun u m => ∃ j : Int, 1 ≤ j ∧ j ≤ 13 ∧ m = .int .i64 j ∧ u = .int .i64 (Cal.cum j (s + n))) (fun _ m => (13 - intOf m).toNat)
      case atStart => exact ⟨1, by omega, by omega, rfl, rfl⟩
      case round =>
        obtain ⟨j, hj1, hj2, rfl, rfl⟩ := hrel
        have hcb := Cal.cum_bd j (s + n) hj1 hj2
        by_cases hj : j ≤ 12
        · have hdb := Cal.dim_bd j (s + n)
          have HC : Hid (Cal.cum (j + 1) (s + n) = Cal.cum j (s + n) + Cal.dim j (s + n)) := Cal.cum_succ j (s + n) hj1 hj
          go_wp2_with (go_at_call 14; refine (zzdaysIn_any _ _ _).mono ?_; rintro e w' ⟨rfl, rfl⟩)
          go_round
          case rel => exact ⟨j + 1, by omega, by omega, rfl, by rw [HC.out]⟩
          case measure => simp [intOf]; omega
        · obtain rfl : j = 13 := by omega
          clear hcb hj hj1 hj2
          rw [Cal.cum_end]
          rcases (show Cal.lp (s + n) = 0 ∨ Cal.lp (s + n) = 1 by omega) with h0 | h0
          all_goals
            have hN := rel_next s n L HL.out
            have hf := Cal.dim_feb (s + n)
            rw [h0] at hN hf ⊢
            have HN : Hid _ := hN
            clear h0 hlp hN
            simp at hf
            go_wp2_with (go_at_call 14; refine (zzdaysIn_any _ _ _).mono ?_; rintro e w' ⟨rfl, rfl⟩)
            go_round
            case rel => exact ⟨n + 1, _, by omega, by omega, by omega, HN, by go_num, by go_num, by go_num⟩
            case measure => simp [intOf]; omega
    · obtain rfl : n = 400 := by omega
      have h97 := Cal.cnt_400 s
      have hL := HL.out
      rw [show ((400 : Nat) : Int) = 400 from rfl] at hL
      obtain rfl : L = 97 := by omega
      clear hL h97 HL
      go_wp2
      go_ret
      exact ⟨rfl, Grown.refl _⟩

theorem walk (a0 : Int) (w0 : (Lit.int .i64 a0).wf = true) (w : World) :
    Calls Try.prog 6 #[.int .i64 a0] w fun e w' => e = .returned (.bool true) ∧ Grown w w' := by
  obtain ⟨lo, hi⟩ := bounds_i64 w0
  by_cases hp : 0 < a0
  · have h := core_pos (a0 - 399) (by omega) (by omega) w
    rw [show a0 - 399 + 399 = a0 by omega] at h
    exact h
  · exact core_neg a0 lo (by omega) w
end Go.Proofs.Qxb6605335a.fnDaysInFourHundredYearCycle
