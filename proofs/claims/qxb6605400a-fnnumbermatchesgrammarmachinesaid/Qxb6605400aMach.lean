/-
  jsb1NumberNext, jsb1NumberAccepts and jsb1NumberMachine compute the automaton 'Num.R'.
-/
import Derived.Test.Qxb6605400aNumber
namespace Go.Proofs.Qxb6605400a
open Go.RowKit
set_option linter.unusedVariables false

/-- the transition, on the byte as a number -/
def nxtI (s : Nat) (x : Int) : Int :=
  match s with
  | 0 => if x = 45 then 1 else if x = 48 then 2 else if 48 ≤ x ∧ x ≤ 57 then 3 else -1
  | 1 => if x = 48 then 2 else if 48 ≤ x ∧ x ≤ 57 then 3 else -1
  | 2 => if x = 46 then 4 else if x = 101 ∨ x = 69 then 6 else -1
  | 3 => if 48 ≤ x ∧ x ≤ 57 then 3 else if x = 46 then 4 else if x = 101 ∨ x = 69 then 6 else -1
  | 4 => if 48 ≤ x ∧ x ≤ 57 then 5 else -1
  | 5 => if 48 ≤ x ∧ x ≤ 57 then 5 else if x = 101 ∨ x = 69 then 6 else -1
  | 6 => if x = 43 ∨ x = 45 then 7 else if 48 ≤ x ∧ x ≤ 57 then 8 else -1
  | 7 => if 48 ≤ x ∧ x ≤ 57 then 8 else -1
  | 8 => if 48 ≤ x ∧ x ≤ 57 then 8 else -1
  | _ => -1
theorem toNat_eq (c k : UInt8) : c = k ↔ (c.toNat : Int) = k.toNat := ⟨fun h => by rw [h], fun h => UInt8.toNat_inj.1 (by omega)⟩
theorem isD_iff (c : UInt8) : Num.isD c = true ↔ 48 ≤ (c.toNat : Int) ∧ (c.toNat : Int) ≤ 57 := by simp [Num.isD]
theorem nxt_eq (s : Nat) (c : UInt8) : Num.nxt s c = nxtI s c.toNat := by
  unfold Num.nxt nxtI
  split <;> simp only [toNat_eq, isD_iff] <;> rfl

set_option maxHeartbeats 1000000 in
theorem next_any (s : Nat) (x : Int) (w : World) (h : s ≤ 8) :
    Calls Try.prog 13 #[.int .i64 s, .int .u8 x] w fun e w' => e = .returned (.int .i64 (nxtI s x)) ∧ w' = w := by
  have hs : s = 0 ∨ s = 1 ∨ s = 2 ∨ s = 3 ∨ s = 4 ∨ s = 5 ∨ s = 6 ∨ s = 7 ∨ s = 8 := by omega
  clear h
  rcases hs with rfl | rfl | rfl | rfl | rfl | rfl | rfl | rfl | rfl
  all_goals
    go_enter Try.func13, Try.ntmps13
    go_wp2
  all_goals
    go_ret
    refine ⟨ret_int ?_, rfl⟩
    try simp only [beq_iff_eq, beq_eq_false_iff_ne, ne_eq] at *
    simp only [nxtI]
    (repeat' split) <;> first | rfl | (exfalso; omega) | simp_all

set_option maxHeartbeats 1000000 in
theorem accepts_any (s : Nat) (w : World) (h : s ≤ 8) :
    Calls Try.prog 14 #[.int .i64 s] w fun e w' => e = .returned (.bool (Num.acc s)) ∧ w' = w := by
  have hs : s = 0 ∨ s = 1 ∨ s = 2 ∨ s = 3 ∨ s = 4 ∨ s = 5 ∨ s = 6 ∨ s = 7 ∨ s = 8 := by omega
  clear h
  rcases hs with rfl | rfl | rfl | rfl | rfl | rfl | rfl | rfl | rfl
  all_goals
    go_enter Try.func14, Try.ntmps14
    go_wp2
    go_ret
    exact ⟨rfl, rfl⟩

theorem nxt_le (s : Nat) (c : UInt8) : Num.nxt s c = -1 ∨ (0 ≤ Num.nxt s c ∧ Num.nxt s c ≤ 8) := by
  rw [nxt_eq]
  unfold nxtI
  split <;> (repeat' split) <;> first | (left; rfl) | (right; decide)

set_option maxHeartbeats 1000000 in
theorem machine_any (a : Option Addr) (n c : Nat) (l : List UInt8) (i : Nat) (w : World) (hn : (n : Int) ≤ 1048640000) (hi : (i : Int) ≤ 9223372036854775807) (hs : Byts w a n l) :
    Calls Try.prog 8 #[.slice a n c, .int .i64 i] w fun e w' => e = .returned (.tuple #[.int .i64 (Num.R l 0 i).1, .bool (Num.acc (Num.R l 0 i).2)]) ∧ w' = w := by
  have HS : Hid (Byts w a n l) := hs
  clear hs
  go_enter Try.func8, Try.ntmps8
  go_wp2
  go_loop [6, 7, 8] (fun t u v => ∃ s p : Nat, s ≤ 8 ∧ (p : Int) ≤ 9223372036854775807 ∧ t = .int .i64 s ∧ u = .int .i64 p ∧ Hid (Num.R l s p = Num.R l 0 i)) (fun _ u _ => n - (intOf u).toNat)
  case atStart => exact ⟨0, i, by omega, hi, rfl, rfl, rfl⟩
  case round =>
    obtain ⟨s, p, hs8, hp, rfl, rfl, HE⟩ := hrel
    by_cases hlt : p < n
    · have hS := HS.out
      obtain ⟨x, ex⟩ : ∃ x, l[p]? = some x := ⟨_, List.getElem?_eq_getElem (by have := hS.1; omega)⟩
      obtain ⟨b, off, rfl, hc⟩ := hS.2.resolve_left (by omega)
      have hcell := hc p x ex
      have EX : Hid (l[p]? = some x) := ex
      clear ex hc hS
      have hx := nxt_le s x
      rw [nxt_eq] at hx
      by_cases hneg : nxtI s x.toNat < 0
      · clear hx
        go_wp2_with (first | (go_at_call 13; refine (next_any _ _ _ hs8).mono ?_; rintro e w' ⟨rfl, rfl⟩) | (go_at_call 14; refine (accepts_any _ _ hs8).mono ?_; rintro e w' ⟨rfl, rfl⟩))
        go_ret2
        have e := HE.out
        rw [Num.R_step EX.out, nxt_eq, if_pos hneg] at e
        exact ⟨ret_ib (by rw [← e]) (by rw [← e]), rfl⟩
      · have h8 : 0 ≤ nxtI s x.toNat ∧ nxtI s x.toNat ≤ 8 := by omega
        clear hx
        go_wp2_with (go_at_call 13; refine (next_any _ _ _ hs8).mono ?_; rintro e w' ⟨rfl, rfl⟩)
        go_round
        case rel =>
          have e := HE.out
          rw [Num.R_step EX.out, nxt_eq, if_neg (by omega)] at e
          exact ⟨(nxtI s x.toNat).toNat, p + 1, by omega, by omega, by go_num, by go_num, e⟩
        case measure => simp [intOf]; omega
    · go_wp2_with (go_at_call 14; refine (accepts_any _ _ hs8).mono ?_; rintro e w' ⟨rfl, rfl⟩)
      go_ret2
      have e := HE.out
      rw [Num.R_end (List.getElem?_eq_none_iff.2 (by have := HS.out.1; omega))] at e
      exact ⟨ret_ib (by rw [← e]) (by rw [← e]), rfl⟩
end Go.Proofs.Qxb6605400a
