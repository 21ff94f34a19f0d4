/-
  FnNumberMatchesGrammarMachine: the walk.
-/
import Derived.Test.Qxb6605400aNumW
import Derived.Test.Qxb6605400aMach
import Derived.Test.Qxb6605400aClone
namespace Go.Proofs.Qxb6605400a.fnNumberMatchesGrammarMachine
open Go.RowKit
set_option linter.unusedVariables false

set_option maxHeartbeats 1000000 in
theorem guard_big (a : Option Addr) (n c : Nat) (i : Int) (w : World) (hn : (n : Int) ≤ 9223372036854775807) (h : 1048576 < (n : Int)) :
    Calls Try.prog 5 #[.slice a n c, .int .i64 i] w fun e w' => e = .returned (.bool false) ∧ w' = w := by
  go_enter Try.func5, Try.ntmps5
  go_wp2
  go_ret
  exact ⟨rfl, rfl⟩
set_option maxHeartbeats 1000000 in
theorem guard_small (a : Option Addr) (n c : Nat) (i : Int) (w : World) (h : (n : Int) ≤ 1048576) :
    Calls Try.prog 5 #[.slice a n c, .int .i64 i] w fun e w' => e = .returned (.bool true) ∧ w' = w := by
  go_enter Try.func5, Try.ntmps5
  go_wp2
  go_ret
  exact ⟨rfl, rfl⟩

set_option maxHeartbeats 2000000 in
theorem walk_in (a : Option Addr) (n c : Nat) (l : List UInt8) (i : Int) (w : World) (hn : n ≤ maxLen) (h0 : a = none → n = 0) (hs : Byts w a n l) (hi1 : -9223372036854775808 ≤ i) (hi2 : i ≤ 9223372036854775807) :
    Calls Try.prog 3 #[.slice a n c, .int .i64 i] w fun e w' => e = .returned (.bool true) ∧ Below w.heap.size w w' := by
  have hni : (n : Int) ≤ 9223372036854775807 := by unfold maxLen at hn; omega
  have H0 : Hid (a = none → n = 0) := h0
  have HS : Hid (Byts w a n l) := hs
  clear h0 hn hs
  by_cases hbig : 1048576 < (n : Int)
  · go_enter Try.func3, Try.ntmps3
    go_wp2_with (go_at_call 5; refine (guard_big _ _ _ _ _ hni hbig).mono ?_; rintro e w' ⟨rfl, rfl⟩)
    go_ret
    exact ⟨rfl, Below.refl _ _⟩
  · by_cases hneg : i < 0
    · go_enter Try.func3, Try.ntmps3
      go_wp2_with (go_at_call 5; refine (guard_small _ _ _ _ _ (by omega)).mono ?_; rintro e w' ⟨rfl, rfl⟩)
      go_ret
      exact ⟨rfl, Below.refl _ _⟩
    · obtain ⟨k, rfl⟩ : ∃ k : Nat, i = (k : Int) := ⟨i.toNat, by omega⟩
      clear hneg
      go_enter Try.func3, Try.ntmps3
      go_wp2_with fail
      refine (guard_small _ _ _ _ _ (by omega)).mono ?_
      rintro e w' ⟨rfl, rfl⟩
      go_wp2_with fail
      refine (clone_any a n c l _ (by omega) H0.out HS.out).mono ?_
      rintro e w1 ⟨v1, rfl, ho1, hb1⟩
      obtain ⟨a1, c1, rfl, hs1, _⟩ := own_byts ho1
      have HS1 : Hid (Byts w1 a1 n l) := hs1
      clear ho1 hs1
      go_wp2_with fail
      refine (zznumber_any a1 n c1 l k _ (by omega) hi2 HS1.out).mono ?_
      rintro e w2 ⟨rfl, rfl⟩
      go_wp2_with fail
      refine (machine_any a1 n c1 l k _ (by omega) hi2 HS1.out).mono ?_
      rintro e w3 ⟨rfl, rfl⟩
      have e := Num.A0 l k
      have e1 : (Num.R l 0 k).1 = (Num.nN l k).1 := by rw [← e]; rfl
      have e2 : Num.acc (Num.R l 0 k).2 = (Num.nN l k).2 := by rw [← e]; rfl
      rw [e1, e2]
      clear e e1 e2
      go_wp2_with fail
      go_ret
      exact ⟨by simp, hb1⟩
end Go.Proofs.Qxb6605400a.fnNumberMatchesGrammarMachine
