/-
  jsb1AppendInt appends the signed decimal text.
-/
import Derived.Test.Qxb6605400aAppU
namespace Go.Proofs.Qxb6605400a
open Go.RowKit
set_option linter.unusedVariables false

/-- the signed decimal text -/
def sdec (v : Int) : List UInt8 := if v < 0 then 45 :: Num.dec v.natAbs else Num.dec v.natAbs

/-- what out owns, and that old memory is as it was -/
def Enc (w wr : World) (o : Value) (l : List UInt8) : Prop := wr.ownsRow w.heap.size 5 1 o l.length (l.map bv) ∧ Below w.heap.size w wr

set_option maxHeartbeats 1000000 in
theorem appI_pos (base : Nat) (v : Value) (m : Nat) (xs : List Value) (N : Nat) (w : World) (hN : (N : Int) ≤ 9223372036854775807)
    (hown : w.ownsRow base 5 1 v m xs) (hb : base ≤ w.heap.size) (hm : m + 25 ≤ 70368744177664) :
    Calls Try.prog 10 #[v, .int .i64 N] w fun e w' => ∃ v', e = .returned v' ∧ w'.ownsRow base 5 1 v' (m + (Num.dec N).length) (xs ++ (Num.dec N).map bv) ∧ Below base w w' := by
  go_enter Try.func10, Try.ntmps10
  go_wp2_with (go_at_call 11; refine (appU_any base _ m xs N _ (by omega) hown hb (by omega)).mono ?_; rintro e w' ⟨v', rfl, h1, h2⟩)
  go_ret
  exact ⟨_, rfl, h1, h2⟩

theorem wrap_u64 (x : Int) : IntKind.u64.wrap x = x % 18446744073709551616 := by simp [IntKind.wrap, IntKind.bits, IntKind.signed]
theorem neg_u64 (N : Nat) (h : (N : Int) ≤ 9223372036854775808) (h0 : 0 < N) : IntKind.u64.wrap (-IntKind.u64.wrap (-(N : Int))) = (N : Int) := by
  rw [wrap_u64, wrap_u64]; omega

set_option maxHeartbeats 1000000 in
theorem appI_neg (base : Nat) (v : Value) (m : Nat) (xs : List Value) (N : Nat) (w : World) (hN : (N : Int) ≤ 9223372036854775808) (h0 : 0 < N)
    (hown : w.ownsRow base 5 1 v m xs) (hb : base ≤ w.heap.size) (hm : m + 25 ≤ 70368744177664) :
    Calls Try.prog 10 #[v, .int .i64 (-(N : Int))] w fun e w' => ∃ v', e = .returned v' ∧ w'.ownsRow base 5 1 v' (m + 1 + (Num.dec N).length) (xs ++ [bv 45] ++ (Num.dec N).map bv) ∧ Below base w w' := by
  obtain ⟨i0, hi, hz0, hz1, hz2⟩ := info_parts info5
  have hneg : -(N : Int) < 0 := by omega
  go_enter Try.func10, Try.ntmps10
  go_wp2_with (at_builtin; refine wpList_append_own _ rfl (.tmp 10) (.tmp 11) 22 rfl base 5 i0 (.int .u8 0) 1 1 Try.underlying22 hi hz0 hz1 hz2 rfl (by decide) _ _ _ rfl (hown.alloc _) ⟨w.heap.size, 0, none⟩ 1 1 [bv 45] rfl rfl (cell_one_new _ _ _) ?c2 ?c3 ?c4 ?c5 ?_)
  case c2 => intro u hu; simp at hu; subst hu; rfl
  case c3 => unfold maxLen; omega
  case c4 => omega
  case c5 => simp; omega
  · intro v1 w1 ho1 hg1 _
    have hb1 : Below base w w1 := ((Below.refl base w).alloc hb _).grown hg1 (by simp; omega) (fun k hk => (hown.lt k hk).1)
    have hsz := hb1.size
    clear hg1
    go_wp2_with fail
    rw [neg_u64 N hN h0]
    refine (appU_any base _ (m + 1) _ N _ (by omega) ho1 (by omega) (by omega)).mono ?_
    rintro e w2 ⟨v2, rfl, ho2, hb2⟩
    go_wp2_with fail
    go_ret
    exact ⟨_, rfl, ho2, hb1.trans hb2⟩

theorem sdec_len (x : Int) : (sdec x).length ≤ 21 := by
  unfold sdec
  have := Num.dec_len x.natAbs
  split
  · simp; omega
  · omega

/-- jsb1AppendInt, for every int64 -/
theorem appI_any (base : Nat) (v : Value) (m : Nat) (xs : List Value) (x : Int) (w : World) (lo : -9223372036854775808 ≤ x) (hi : x ≤ 9223372036854775807)
    (hown : w.ownsRow base 5 1 v m xs) (hb : base ≤ w.heap.size) (hm : m + 25 ≤ 70368744177664) :
    Calls Try.prog 10 #[v, .int .i64 x] w fun e w' => ∃ v', e = .returned v' ∧ w'.ownsRow base 5 1 v' (m + (sdec x).length) (xs ++ (sdec x).map bv) ∧ Below base w w' := by
  unfold sdec
  by_cases h : x < 0
  · rw [if_pos h]
    have := appI_neg base v m xs x.natAbs w (by omega) (by omega) hown hb hm
    rw [show -((x.natAbs : Nat) : Int) = x by omega] at this
    refine this.mono ?_
    rintro e w' ⟨v', rfl, h1, h2⟩
    refine ⟨v', rfl, ?_, h2⟩
    rw [List.length_cons, show m + ((Num.dec x.natAbs).length + 1) = m + 1 + (Num.dec x.natAbs).length by omega]
    simpa using h1
  · rw [if_neg h]
    have := appI_pos base v m xs x.natAbs w (by omega) hown hb hm
    rw [show ((x.natAbs : Nat) : Int) = x by omega] at this
    exact this
end Go.Proofs.Qxb6605400a
