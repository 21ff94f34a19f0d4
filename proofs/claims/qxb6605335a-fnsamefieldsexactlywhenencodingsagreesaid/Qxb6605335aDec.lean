/-
  The decimal text of a number: the plain function, no Go in sight.
-/
import Derived.Test.Qxb6605335aDig
namespace Go.Proofs.Qxb6605335a.Dig
open Go.RowKit

/-- the byte of the last digit -/
def ch (x : Nat) : UInt8 := UInt8.ofNat (48 + x % 10)
/-- the digits of x, none for 0, at most f of them -/
def decF : Nat → Nat → List UInt8
  | 0, _ => []
  | f + 1, x => if x = 0 then [] else decF f (x / 10) ++ [ch x]
def dec (x : Nat) : List UInt8 := if x = 0 then [48] else decF 24 x

theorem ch_toNat (x : Nat) : (ch x).toNat = 48 + x % 10 := by
  unfold ch; rw [UInt8.toNat_ofNat']; omega
theorem ch_dv (x : Nat) : dv (ch x) = ((x % 10 : Nat) : Int) := by unfold dv; rw [ch_toNat]; omega
theorem ch_isD (x : Nat) : isD (ch x) = true := by apply isD_true <;> rw [ch_toNat] <;> omega
theorem decF_zero (f : Nat) : decF f 0 = [] := by cases f <;> rfl
theorem decF_succ (f x : Nat) (h : 0 < x) : decF (f + 1) x = decF f (x / 10) ++ [ch x] := by
  rw [decF, if_neg (by omega)]
theorem decF_allD (f x : Nat) : allD (decF f x) = true := by
  induction f generalizing x with
  | zero => rfl
  | succ f ih =>
    rw [decF]; split
    · rfl
    · rw [allD_append, ih, allD_cons, ch_isD]; rfl
theorem decF_val (f x : Nat) (h : x < 10 ^ f) : val (decF f x) 0 = x := by
  induction f generalizing x with
  | zero => simp at h; subst h; rfl
  | succ f ih =>
    rw [decF]; split
    · rename_i h0; subst h0; rfl
    · rw [val_snoc, ih (x / 10) (by rw [Nat.pow_succ] at h; omega), ch_dv]; omega
theorem decF_len (f x : Nat) : (decF f x).length ≤ f := by
  induction f generalizing x with
  | zero => simp [decF]
  | succ f ih =>
    rw [decF]; split
    · simp
    · have := ih (x / 10); simp; omega
theorem dec_allD (x : Nat) : allD (dec x) = true := by
  unfold dec; split
  · rfl
  · exact decF_allD _ _
theorem dec_val (x : Nat) (h : x < 1000000000000000000000000) : val (dec x) 0 = x := by
  unfold dec; split
  · rename_i h0; subst h0; rfl
  · exact decF_val _ _ (by simpa using h)
theorem dec_len (x : Nat) : (dec x).length ≤ 24 := by
  unfold dec; split
  · simp
  · exact decF_len _ _
theorem dec_pos (x : Nat) : 1 ≤ (dec x).length := by
  unfold dec; split
  · simp
  · rename_i h; rw [decF_succ 23 x (by omega)]; simp
theorem dec_inj (x y : Nat) (hx : x < 1000000000000000000000000) (hy : y < 1000000000000000000000000) (h : dec x = dec y) : x = y := by
  have h1 := dec_val x hx
  have h2 := dec_val y hy
  rw [h] at h1; omega
end Go.Proofs.Qxb6605335a.Dig
