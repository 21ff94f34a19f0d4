/-
  Decimal digits: the plain functions, no Go in sight.
-/
import Derived.RowKit
namespace Go.Proofs.Qxb6605335a.Dig
open Go.RowKit

/-- is the byte a decimal digit? -/
def isD (c : UInt8) : Bool := decide (48 ≤ (c.toNat : Int) ∧ (c.toNat : Int) ≤ 57)
/-- its value -/
def dv (c : UInt8) : Int := (c.toNat : Int) - 48
def allD (l : List UInt8) : Bool := l.all isD
/-- the number that the digits l write, behind n -/
def val : List UInt8 → Int → Int
  | [], n => n
  | c :: t, n => val t (n * 10 + dv c)
/-- s[a:b], as a list of bytes -/
def seg (s : ByteArray) (a b : Nat) : List UInt8 := (s.data.toList.take b).drop a
/-- what digits(s, a, b) answers: the number, and whether there is one -/
def num (l : List UInt8) : Int := if allD l = true then wrap64 (val l 0) else 0

theorem isD_true {c : UInt8} (h1 : 48 ≤ (c.toNat : Int)) (h2 : (c.toNat : Int) ≤ 57) : isD c = true := by simp [isD]; omega
theorem isD_lt {c : UInt8} (h1 : (c.toNat : Int) < 48) : isD c = false := by simp [isD]; omega
theorem isD_gt {c : UInt8} (h1 : 57 < (c.toNat : Int)) : isD c = false := by simp [isD]; omega
theorem isD_out {c : UInt8} (h : isD c = true) : 48 ≤ (c.toNat : Int) ∧ (c.toNat : Int) ≤ 57 := by simpa [isD] using h

theorem allD_nil : allD [] = true := rfl
theorem allD_append (l m : List UInt8) : allD (l ++ m) = (allD l && allD m) := by simp [allD]
theorem allD_cons (c : UInt8) (l : List UInt8) : allD (c :: l) = (isD c && allD l) := by simp [allD]
theorem val_append (l m : List UInt8) (n : Int) : val (l ++ m) n = val m (val l n) := by
  induction l generalizing n with
  | nil => rfl
  | cons c t ih => exact ih _
theorem val_snoc (l : List UInt8) (c : UInt8) (n : Int) : val (l ++ [c]) n = val l n * 10 + dv c := by rw [val_append]; rfl
theorem val_shift (l : List UInt8) (n : Int) : val l n = n * 10 ^ l.length + val l 0 := by
  induction l generalizing n with
  | nil => simp [val]
  | cons c t ih =>
    rw [val, val, ih (n * 10 + dv c), ih (0 * 10 + dv c), List.length_cons, Int.pow_succ]
    simp only [Int.add_mul, Int.mul_assoc, Int.zero_mul, Int.mul_comm 10]
    omega
theorem val_cons (c : UInt8) (t : List UInt8) : val (c :: t) 0 = dv c * 10 ^ t.length + val t 0 := by
  rw [val, val_shift]; simp

theorem wrap64_shift (x q : Int) : wrap64 (x + 18446744073709551616 * q) = wrap64 x := by unfold wrap64; omega
theorem wrap64_form (x : Int) : ∃ q, wrap64 x = x + 18446744073709551616 * q := ⟨-((x + 9223372036854775808) / 18446744073709551616), by unfold wrap64; omega⟩
theorem wrap64_bd (x : Int) : -9223372036854775808 ≤ wrap64 x ∧ wrap64 x ≤ 9223372036854775807 := by unfold wrap64; omega
theorem wrap64_of {x : Int} (h1 : -9223372036854775808 ≤ x) (h2 : x ≤ 9223372036854775807) : wrap64 x = x := by unfold wrap64; omega
theorem wrap64_mul (a b : Int) : wrap64 (a * wrap64 b) = wrap64 (a * b) := by
  obtain ⟨q, h⟩ := wrap64_form b
  rw [h, Int.mul_add, Int.mul_left_comm, wrap64_shift]
theorem wrap64_add (a b : Int) : wrap64 (wrap64 a + wrap64 b) = wrap64 (a + b) := by unfold wrap64; omega
theorem wrap64_add_right (a b : Int) : wrap64 (a + wrap64 b) = wrap64 (a + b) := by unfold wrap64; omega
theorem wrap64_add_left (a b : Int) : wrap64 (wrap64 a + b) = wrap64 (a + b) := by unfold wrap64; omega

theorem seg_self (s : ByteArray) (a : Nat) : seg s a a = [] := by
  unfold seg; rw [List.drop_eq_nil_iff]; simp only [List.length_take]; omega
theorem seg_snoc (s : ByteArray) (a k : Nat) (h : k < s.size) (ha : a ≤ k) : seg s a (k + 1) = seg s a k ++ [s[k]] := by
  unfold seg
  rw [List.take_succ_eq_append_getElem (by simpa using h), List.drop_append_of_le_length (by simp; have : s.data.size = s.size := rfl; omega)]
  rfl
theorem seg_cons (s : ByteArray) (j b : Nat) (h : b ≤ s.size) (hj : j < b) : seg s j b = s[j] :: seg s (j + 1) b := by
  unfold seg
  have hl : j < (s.data.toList.take b).length := by simp; have : s.data.size = s.size := rfl; omega
  rw [List.drop_eq_getElem_cons hl, List.getElem_take]
  rfl
theorem seg_len (s : ByteArray) (a b : Nat) (h : b ≤ s.size) : (seg s a b).length = b - a := by
  unfold seg; have : s.data.size = s.size := rfl; simp; omega
theorem seg_split (s : ByteArray) (a k b : Nat) (ha : a ≤ k) (hk : k ≤ b) (hb : b ≤ s.size) : seg s a b = seg s a k ++ seg s k b := by
  unfold seg
  have : s.data.size = s.size := rfl
  have e : s.data.toList.take k = (s.data.toList.take b).take k := by rw [List.take_take]; congr 1; omega
  rw [e, ← List.drop_append_of_le_length (by simp; omega), List.take_append_drop]

/-- a byte that is no digit in the segment -/
theorem bad_at (s : ByteArray) (a k b : Nat) (ha : a ≤ k) (hk : k < b) (hb : b ≤ s.size) (h : isD (s[k]'(by omega)) = false) : allD (seg s a b) = false := by
  rw [seg_split s a k b ha (by omega) hb, seg_cons s k b hb hk, allD_append, allD_cons, h]
  simp
theorem num_bad {l : List UInt8} (h : allD l = false) : num l = 0 := by simp [num, h]
theorem num_good {l : List UInt8} (h : allD l = true) : num l = wrap64 (val l 0) := by simp [num, h]
theorem num_bd (l : List UInt8) : -9223372036854775808 ≤ num l ∧ num l ≤ 9223372036854775807 := by
  unfold num; split
  · exact wrap64_bd _
  · omega
/-- one digit more at the end -/
theorem step_right (l : List UInt8) (c : UInt8) (n : Int) (h : n = wrap64 (val l 0)) : wrap64 (wrap64 (n * 10) + dv c) = wrap64 (val (l ++ [c]) 0) := by
  rw [h, wrap64_add_left, val_snoc]
  have := wrap64_mul 10 (val l 0)
  rw [Int.mul_comm, Int.mul_comm 10] at this
  rw [← wrap64_add_left, this, wrap64_add_left]
/-- one digit more at the head -/
theorem step_left (l : List UInt8) (c : UInt8) (n p : Int) (h : n = wrap64 (val l 0)) (hp : p = wrap64 (10 ^ l.length)) :
    wrap64 (n + wrap64 (dv c * p)) = wrap64 (val (c :: l) 0) := by
  rw [h, hp, wrap64_mul, wrap64_add, val_cons, Int.add_comm]
theorem step_place (l : List UInt8) (c : UInt8) (p : Int) (hp : p = wrap64 (10 ^ l.length)) : wrap64 (p * 10) = wrap64 (10 ^ (c :: l).length) := by
  rw [hp, List.length_cons, Int.pow_succ, Int.mul_comm, wrap64_mul, Int.mul_comm]
/-- what both readings answer, for every from and to -/
def ansN (s : ByteArray) (a b : Int) : Int := if (s.size : Int) < b then 0 else if b ≤ a then 0 else num (seg s a.toNat b.toNat)
def ansB (s : ByteArray) (a b : Int) : Bool := if (s.size : Int) < b then false else if b ≤ a then true else allD (seg s a.toNat b.toNat)
theorem num_nil : num [] = 0 := by rw [num_good rfl]; simp [val, wrap64]
end Go.Proofs.Qxb6605335a.Dig
