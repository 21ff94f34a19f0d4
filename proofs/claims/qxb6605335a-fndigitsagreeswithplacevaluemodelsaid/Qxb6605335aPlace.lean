/-
  digitsByPlaceValue computes the same as digits; the law.
-/
import Derived.Test.Qxb6605335aDigits
import Derived.OpenShut
namespace Go.Proofs.Qxb6605335a.fnDigitsAgreesWithPlaceValueModel
open Go.RowKit
set_option linter.unusedVariables false

set_option maxHeartbeats 1000000 in
theorem place_past (s : ByteArray) (a b : Int) (hs : s.size ≤ maxLen) (h : (s.size : Int) < b) (w : World) :
    Calls Try.prog 11 #[.string s, .int .i64 a, .int .i64 b] w fun e w' => e = .returned (.tuple #[.int .i64 0, .bool false]) ∧ w' = w := by
  unfold maxLen at hs
  go_enter Try.func11, Try.ntmps11
  go_wp2
  go_ret2
  exact ⟨rfl, rfl⟩

set_option maxHeartbeats 1000000 in
theorem place_none (s : ByteArray) (a b : Int) (hs : s.size ≤ maxLen) (h : b ≤ (s.size : Int)) (hab : b ≤ a) (w : World) :
    Calls Try.prog 11 #[.string s, .int .i64 a, .int .i64 b] w fun e w' => e = .returned (.tuple #[.int .i64 0, .bool true]) ∧ w' = w := by
  unfold maxLen at hs
  go_enter Try.func11, Try.ntmps11
  go_wp2
  go_ret2
  exact ⟨rfl, rfl⟩

set_option maxHeartbeats 1000000 in
theorem place_some (s : ByteArray) (a b : Nat) (hs : s.size ≤ maxLen) (h : b ≤ s.size) (hab : a < b) (w : World) :
    Calls Try.prog 11 #[.string s, .int .i64 a, .int .i64 b] w fun e w' => e = .returned (.tuple #[.int .i64 (Dig.num (Dig.seg s a b)), .bool (Dig.allD (Dig.seg s a b))]) ∧ w' = w := by
  unfold maxLen at hs
  go_enter Try.func11, Try.ntmps11
  go_wp2
  go_loop [8, 9, 10] (fun n p i => ∃ (j : Nat) (x y : Int), a ≤ j ∧ j ≤ b ∧ i = .int .i64 ((j : Int) - 1) ∧ n = .int .i64 x ∧ p = .int .i64 y ∧ Hid (Dig.allD (Dig.seg s j b) = true ∧ x = wrap64 (Dig.val (Dig.seg s j b) 0) ∧ y = wrap64 (10 ^ (Dig.seg s j b).length))) (fun _ _ i => (intOf i + 1).toNat)
  case atStart => exact ⟨b, 0, 1, by omega, by omega, by go_num, rfl, rfl, by rw [Dig.seg_self]; exact ⟨rfl, by simp [Dig.val, wrap64], by simp [wrap64]⟩⟩
  case round =>
    obtain ⟨j, x, y, hj1, hj2, rfl, rfl, rfl, HR⟩ := hrel
    by_cases hlt : a < j
    · obtain ⟨k, rfl⟩ : ∃ k, j = k + 1 := ⟨j - 1, by omega⟩
      rw [show ((k + 1 : Nat) : Int) - 1 = (k : Int) by omega]
      have hks : k < s.size := by omega
      by_cases h1 : (s[k].toNat : Int) < 48
      · go_wp2
        go_ret2
        have hb := Dig.bad_at s a k b (by omega) (by omega) h (Dig.isD_lt h1)
        exact ⟨ret_ib (Dig.num_bad hb).symm hb.symm, rfl⟩
      · by_cases h2 : 57 < (s[k].toNat : Int)
        · go_wp2
          go_ret2
          have hb := Dig.bad_at s a k b (by omega) (by omega) h (Dig.isD_gt h2)
          exact ⟨ret_ib (Dig.num_bad hb).symm hb.symm, rfl⟩
        · go_wp2
          go_round
          case rel =>
            obtain ⟨g1, g2, g3⟩ := HR.out
            refine ⟨k, _, _, by omega, by omega, rfl, rfl, rfl, ?_⟩
            rw [Dig.seg_cons s k b h (by omega)]
            refine ⟨?_, Dig.step_left _ _ _ _ g2 g3, Dig.step_place _ _ _ g3⟩
            rw [Dig.allD_cons, g1, Dig.isD_true (by omega) (by omega)]; rfl
          case measure => simp [intOf]
    · go_wp2
      go_ret2
      obtain rfl : j = a := by omega
      obtain ⟨g1, g2, _⟩ := HR.out
      exact ⟨ret_ib (by rw [Dig.num_good g1]; exact g2) g1.symm, rfl⟩

theorem place_any (s : ByteArray) (a b : Int) (hs : s.size ≤ maxLen) (h : 0 ≤ a ∨ b ≤ a ∨ (s.size : Int) < b) (w : World) :
    Calls Try.prog 11 #[.string s, .int .i64 a, .int .i64 b] w fun e w' => e = .returned (.tuple #[.int .i64 (Dig.ansN s a b), .bool (Dig.ansB s a b)]) ∧ w' = w := by
  unfold Dig.ansN Dig.ansB
  by_cases h1 : (s.size : Int) < b
  · rw [if_pos h1, if_pos h1]; exact place_past s a b hs h1 w
  · rw [if_neg h1, if_neg h1]
    by_cases h2 : b ≤ a
    · rw [if_pos h2, if_pos h2]; exact place_none s a b hs (by omega) h2 w
    · rw [if_neg h2, if_neg h2]
      have := place_some s a.toNat b.toNat hs (by omega) (by omega) w
      rw [show ((a.toNat : Nat) : Int) = a by omega, show ((b.toNat : Nat) : Int) = b by omega] at this
      exact this

set_option maxHeartbeats 1000000 in
theorem bytes_big (s : ByteArray) (a b : Int) (hs : s.size ≤ maxLen) (h : 1048576 < (s.size : Int)) (w : World) :
    Calls Try.prog 9 #[.string s, .int .i64 a, .int .i64 b] w fun e w' => e = .returned (.bool false) ∧ w' = w := by
  unfold maxLen at hs
  go_enter Try.func9, Try.ntmps9
  go_wp2
  go_ret
  exact ⟨rfl, rfl⟩

set_option maxHeartbeats 1000000 in
theorem bytes_small (s : ByteArray) (a b : Int) (hs : s.size ≤ maxLen) (h : (s.size : Int) ≤ 1048576) (w : World) :
    Calls Try.prog 9 #[.string s, .int .i64 a, .int .i64 b] w fun e w' => e = .returned (.bool true) ∧ w' = w := by
  unfold maxLen at hs
  go_enter Try.func9, Try.ntmps9
  go_wp2
  go_ret
  exact ⟨rfl, rfl⟩

set_option maxHeartbeats 1000000 in
theorem walk (a0 : ByteArray) (a1 : Int) (a2 : Int) (w0 : a0.size ≤ maxLen) (w1 : (Lit.int .i64 a1).wf = true) (w2 : (Lit.int .i64 a2).wf = true) (w : World) :
    Calls Try.prog 3 #[.string a0, .int .i64 a1, .int .i64 a2] w fun e w' => e = .returned (.bool true) ∧ Grown w w' := by
  by_cases hb : 1048576 < (a0.size : Int)
  · go_enter Try.func3, Try.ntmps3
    go_wp2_with (go_at_call 9; refine (bytes_big _ _ _ w0 hb _).mono ?_; rintro e w' ⟨rfl, rfl⟩)
    go_ret
    exact ⟨rfl, Grown.refl _⟩
  · have hb' : (a0.size : Int) ≤ 1048576 := by omega
    by_cases hn : a1 < 0
    · by_cases hn2 : a1 < a2
      · by_cases hn3 : a2 ≤ (a0.size : Int)
        · go_enter Try.func3, Try.ntmps3
          go_wp2_with (go_at_call 9; refine (bytes_small _ _ _ w0 hb' _).mono ?_; rintro e w' ⟨rfl, rfl⟩)
          go_ret
          exact ⟨rfl, Grown.refl _⟩
        · have hc : 0 ≤ a1 ∨ a2 ≤ a1 ∨ (a0.size : Int) < a2 := by omega
          have HC : Hid _ := hc
          clear hc
          go_enter Try.func3, Try.ntmps3
          go_wp2_with (first | (go_at_call 9; refine (bytes_small _ _ _ w0 hb' _).mono ?_; rintro e w' ⟨rfl, rfl⟩) | (go_at_call 10; refine (zzdigits_any _ _ _ w0 HC.out _).mono ?_; rintro e w' ⟨rfl, rfl⟩) | (go_at_call 11; refine (place_any _ _ _ w0 HC.out _).mono ?_; rintro e w' ⟨rfl, rfl⟩))
          go_ret
          exact ⟨by simp, Grown.refl _⟩
      · have hc : 0 ≤ a1 ∨ a2 ≤ a1 ∨ (a0.size : Int) < a2 := by omega
        have HC : Hid _ := hc
        clear hc
        go_enter Try.func3, Try.ntmps3
        go_wp2_with (first | (go_at_call 9; refine (bytes_small _ _ _ w0 hb' _).mono ?_; rintro e w' ⟨rfl, rfl⟩) | (go_at_call 10; refine (zzdigits_any _ _ _ w0 HC.out _).mono ?_; rintro e w' ⟨rfl, rfl⟩) | (go_at_call 11; refine (place_any _ _ _ w0 HC.out _).mono ?_; rintro e w' ⟨rfl, rfl⟩))
        go_ret
        exact ⟨by simp, Grown.refl _⟩
    · have hc : 0 ≤ a1 ∨ a2 ≤ a1 ∨ (a0.size : Int) < a2 := by omega
      have HC : Hid _ := hc
      clear hc
      go_enter Try.func3, Try.ntmps3
      go_wp2_with (first | (go_at_call 9; refine (bytes_small _ _ _ w0 hb' _).mono ?_; rintro e w' ⟨rfl, rfl⟩) | (go_at_call 10; refine (zzdigits_any _ _ _ w0 HC.out _).mono ?_; rintro e w' ⟨rfl, rfl⟩) | (go_at_call 11; refine (place_any _ _ _ w0 HC.out _).mono ?_; rintro e w' ⟨rfl, rfl⟩))
      go_ret
      exact ⟨by simp, Grown.refl _⟩
end Go.Proofs.Qxb6605335a.fnDigitsAgreesWithPlaceValueModel
