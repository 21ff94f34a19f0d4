/-
  digits, ZZdigits and digitsByPlaceValue compute 'Dig.num' and 'Dig.allD'.
-/
import Derived.Test.Qxb6605335aRows
import Derived.Test.Qxb6605335aDig
import Derived.WalkKit
namespace Go.Proofs.Qxb6605335a
open Go.RowKit
set_option linter.unusedVariables false

theorem ret_ib {k : IntKind} {a b : Int} {p q : Bool} (h : a = b) (g : p = q) : Ending.returned (.tuple #[.int k a, .bool p]) = .returned (.tuple #[.int k b, .bool q]) := by rw [h, g]

set_option maxHeartbeats 1000000 in
theorem digits_past (s : ByteArray) (a b : Int) (hs : s.size ≤ maxLen) (h : (s.size : Int) < b) (w : World) :
    Calls Try.prog 25 #[.string s, .int .i64 a, .int .i64 b] w fun e w' => e = .returned (.tuple #[.int .i64 0, .bool false]) ∧ w' = w := by
  unfold maxLen at hs
  go_enter Try.func25, Try.ntmps25
  go_wp2
  go_ret2
  exact ⟨rfl, rfl⟩

set_option maxHeartbeats 1000000 in
theorem digits_none (s : ByteArray) (a b : Int) (hs : s.size ≤ maxLen) (h : b ≤ (s.size : Int)) (hab : b ≤ a) (w : World) :
    Calls Try.prog 25 #[.string s, .int .i64 a, .int .i64 b] w fun e w' => e = .returned (.tuple #[.int .i64 0, .bool true]) ∧ w' = w := by
  unfold maxLen at hs
  go_enter Try.func25, Try.ntmps25
  go_wp2
  refine wp_loop_rounds 1 ?_
  rw [rounds_succ]
  go_wp2
  go_ret2
  exact ⟨rfl, rfl⟩

set_option maxHeartbeats 1000000 in
theorem digits_some (s : ByteArray) (a b : Nat) (hs : s.size ≤ maxLen) (h : b ≤ s.size) (hab : a ≤ b) (w : World) :
    Calls Try.prog 25 #[.string s, .int .i64 a, .int .i64 b] w fun e w' => e = .returned (.tuple #[.int .i64 (Dig.num (Dig.seg s a b)), .bool (Dig.allD (Dig.seg s a b))]) ∧ w' = w := by
  unfold maxLen at hs
  go_enter Try.func25, Try.ntmps25
  go_wp2
  go_loop [8, 9] (fun n i => ∃ (k : Nat) (x : Int), a ≤ k ∧ k ≤ b ∧ i = .int .i64 k ∧ n = .int .i64 x ∧ Hid (Dig.allD (Dig.seg s a k) = true ∧ x = wrap64 (Dig.val (Dig.seg s a k) 0))) (fun _ i => b - (intOf i).toNat)
  case atStart => exact ⟨a, 0, by omega, by omega, rfl, rfl, by rw [Dig.seg_self]; exact ⟨rfl, by simp [Dig.val, wrap64]⟩⟩
  case round =>
    obtain ⟨k, x, hk1, hk2, rfl, rfl, HR⟩ := hrel
    by_cases hlt : k < b
    · have hks : k < s.size := by omega
      by_cases h1 : (s[k].toNat : Int) < 48
      · go_wp2
        go_ret2
        have hb := Dig.bad_at s a k b hk1 hlt h (Dig.isD_lt h1)
        exact ⟨ret_ib (Dig.num_bad hb).symm hb.symm, rfl⟩
      · by_cases h2 : 57 < (s[k].toNat : Int)
        · go_wp2
          go_ret2
          have hb := Dig.bad_at s a k b hk1 hlt h (Dig.isD_gt h2)
          exact ⟨ret_ib (Dig.num_bad hb).symm hb.symm, rfl⟩
        · go_wp2
          go_round
          case rel =>
            obtain ⟨g1, g2⟩ := HR.out
            refine ⟨k + 1, _, by omega, by omega, by go_num, rfl, ?_⟩
            rw [Dig.seg_snoc s a k hks hk1]
            refine ⟨?_, Dig.step_right _ _ _ g2⟩
            rw [Dig.allD_append, g1, Dig.allD_cons, Dig.isD_true (by omega) (by omega)]; rfl
          case measure => simp [intOf]; omega
    · go_wp2
      go_ret2
      obtain rfl : k = b := by omega
      obtain ⟨g1, g2⟩ := HR.out
      exact ⟨ret_ib (by rw [Dig.num_good g1]; exact g2) g1.symm, rfl⟩

/-- digits, for every argument at which it does not panic -/
theorem digits_any (s : ByteArray) (a b : Int) (hs : s.size ≤ maxLen) (h : 0 ≤ a ∨ b ≤ a ∨ (s.size : Int) < b) (w : World) :
    Calls Try.prog 25 #[.string s, .int .i64 a, .int .i64 b] w fun e w' => e = .returned (.tuple #[.int .i64 (Dig.ansN s a b), .bool (Dig.ansB s a b)]) ∧ w' = w := by
  unfold Dig.ansN Dig.ansB
  by_cases h1 : (s.size : Int) < b
  · rw [if_pos h1, if_pos h1]; exact digits_past s a b hs h1 w
  · rw [if_neg h1, if_neg h1]
    by_cases h2 : b ≤ a
    · rw [if_pos h2, if_pos h2]; exact digits_none s a b hs (by omega) h2 w
    · rw [if_neg h2, if_neg h2]
      have := digits_some s a.toNat b.toNat hs (by omega) (by omega) w
      rw [show ((a.toNat : Nat) : Int) = a by omega, show ((b.toNat : Nat) : Int) = b by omega] at this
      exact this

theorem zzdigits_any (s : ByteArray) (a b : Int) (hs : s.size ≤ maxLen) (h : 0 ≤ a ∨ b ≤ a ∨ (s.size : Int) < b) (w : World) :
    Calls Try.prog 10 #[.string s, .int .i64 a, .int .i64 b] w fun e w' => e = .returned (.tuple #[.int .i64 (Dig.ansN s a b), .bool (Dig.ansB s a b)]) ∧ w' = w := by
  go_enter Try.func10, Try.ntmps10
  go_wp2_with (go_at_call 25; refine (digits_any _ _ _ hs h _).mono ?_; rintro e w' ⟨rfl, rfl⟩)
  go_ret2
  exact ⟨rfl, rfl⟩
end Go.Proofs.Qxb6605335a
