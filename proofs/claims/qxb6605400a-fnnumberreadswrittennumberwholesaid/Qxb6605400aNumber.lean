/-
  digits, number and ZZnumber compute 'Num.dEnd' and 'Num.nN'.
-/
import Derived.Test.Qxb6605400aRows
import Derived.Test.Qxb6605400aNum
import Derived.WalkKit
import Derived.WalkSpells
import Derived.Deep.DeepCutAuto
namespace Go.Proofs.Qxb6605400a
open Go.RowKit
set_option linter.unusedVariables false

/-- the byte as a value -/
abbrev bv (c : UInt8) : Value := .int .u8 c.toNat
/-- the elements of a slice at a, n of them, are the bytes l -/
def Byts (w : World) (a : Option Addr) (n : Nat) (l : List UInt8) : Prop :=
  l.length = n ∧ (n = 0 ∨ ∃ b off, a = some ⟨b, off, none⟩ ∧ ∀ i c, l[i]? = some c → w.cell? ⟨b, off + i, none⟩ = some (bv c))
theorem ret_int {k : IntKind} {a b : Int} (h : a = b) : Ending.returned (.int k a) = .returned (.int k b) := by rw [h]
theorem ret_ib {k : IntKind} {a b : Int} {p q : Bool} (h : a = b) (g : p = q) : Ending.returned (.tuple #[.int k a, .bool p]) = .returned (.tuple #[.int k b, .bool q]) := by rw [h, g]

theorem isD_lt {c : UInt8} (h : (c.toNat : Int) < 48) : Num.isD c = false := by simp [Num.isD]; omega
theorem isD_gt {c : UInt8} (h : 57 < (c.toNat : Int)) : Num.isD c = false := by simp [Num.isD]; omega
theorem isD_in {c : UInt8} (h1 : 48 ≤ (c.toNat : Int)) (h2 : (c.toNat : Int) ≤ 57) : Num.isD c = true := by simp [Num.isD]; omega

set_option maxHeartbeats 1000000 in
theorem digits_any (a : Option Addr) (n c : Nat) (l : List UInt8) (i : Nat) (w : World) (hn : (n : Int) ≤ 9223372036854775807) (hi : (i : Int) ≤ 9223372036854775807) (hs : Byts w a n l) :
    Calls Try.prog 15 #[.slice a n c, .int .i64 i] w fun e w' => e = .returned (.int .i64 (Num.dEnd l i)) ∧ w' = w := by
  have HS : Hid (Byts w a n l) := hs
  clear hs
  go_enter Try.func15, Try.ntmps15
  go_wp2
  go_loop [1] (fun t => ∃ p : Nat, (p : Int) ≤ 9223372036854775807 ∧ t = .int .i64 p ∧ Hid (Num.dEnd l p = Num.dEnd l i)) (fun t => n - (intOf t).toNat)
  case atStart => exact ⟨i, hi, rfl, rfl⟩
  case round =>
    obtain ⟨p, hp, rfl, HE⟩ := hrel
    by_cases hlt : p < n
    · have hS := HS.out
      obtain ⟨x, ex⟩ : ∃ x, l[p]? = some x := ⟨_, List.getElem?_eq_getElem (by have := hS.1; omega)⟩
      obtain ⟨b, off, rfl, hc⟩ := hS.2.resolve_left (by omega)
      have hcell := hc p x ex
      have EX : Hid (l[p]? = some x) := ex
      clear ex hc hS
      by_cases h1 : 48 ≤ (x.toNat : Int)
      · by_cases h2 : (x.toNat : Int) ≤ 57
        · go_wp2
          go_round
          case rel => exact ⟨p + 1, by omega, by go_num, by unfold Hid; rw [← Num.dEnd_yes (by rw [Num.dAt_some EX.out]; exact isD_in h1 h2)]; exact HE.out⟩
          case measure => simp [intOf]; omega
        · go_wp2
          go_ret
          exact ⟨ret_int (by rw [← HE.out, Num.dEnd_no (by rw [Num.dAt_some EX.out]; exact isD_gt (by omega))]), rfl⟩
      · go_wp2
        go_ret
        exact ⟨ret_int (by rw [← HE.out, Num.dEnd_no (by rw [Num.dAt_some EX.out]; exact isD_lt (by omega))]), rfl⟩
    · go_wp2
      go_ret
      exact ⟨ret_int (by rw [← HE.out, Num.dEnd_no (Num.dAt_none (List.getElem?_eq_none_iff.2 (by have := HS.out.1; omega)))]), rfl⟩
end Go.Proofs.Qxb6605400a
