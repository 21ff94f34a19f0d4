/-
  A decimal text between two strings is read back: no Go in sight.
-/
import Derived.Test.Qxb6605335aDec
namespace Go.Proofs.Qxb6605335a.Dig
open Go.RowKit

theorem cat_list (p D q : ByteArray) : (p ++ D ++ q).data.toList = p.data.toList ++ (D.data.toList ++ q.data.toList) := by
  simp [ByteArray.data_append]
theorem len_list (p : ByteArray) : p.data.toList.length = p.size := by rw [Array.length_toList]; rfl
theorem cat_size (p D q : ByteArray) : (p ++ D ++ q).size = p.size + D.size + q.size := by
  simp [ByteArray.size_append]

theorem seg_mid (p D q : ByteArray) (k : Nat) : seg (p ++ D ++ q) p.size (p.size + k) = (D.data.toList ++ q.data.toList).take k := by
  unfold seg
  rw [cat_list]
  have h := len_list p
  rw [← h, List.take_length_add_append]
  simp
theorem seg_read (p D q : ByteArray) : seg (p ++ D ++ q) p.size (p.size + D.size) = D.data.toList := by
  rw [seg_mid, ← len_list D]; simp
theorem seg_more (p D q : ByteArray) (h : 0 < q.size) : seg (p ++ D ++ q) p.size (p.size + D.size + 1) = D.data.toList ++ [q[0]] := by
  rw [Nat.add_assoc, seg_mid, ← len_list D, List.take_length_add_append, List.take_one]
  have h' : 0 < q.data.toList.length := by rw [len_list]; exact h
  have e : q.data.toList.head? = some q[0] := by
    rw [List.head?_eq_getElem?, List.getElem?_eq_getElem h']; rfl
  rw [e]; rfl
theorem get_pre (p D q : ByteArray) (k : Nat) (h : k < p.size) (h' : k < (p ++ D ++ q).size) : (p ++ D ++ q)[k] = p[k] := by
  have h1 : k < (p ++ D).size := by rw [ByteArray.size_append]; omega
  rw [ByteArray.getElem_append_left h1, ByteArray.getElem_append_left h]

theorem ansN_eq (s : ByteArray) (a b : Nat) (h : b ≤ s.size) (hab : a < b) : ansN s a b = num (seg s a b) := by
  unfold ansN; rw [if_neg (by omega), if_neg (by omega)]; simp
theorem ansB_eq (s : ByteArray) (a b : Nat) (h : b ≤ s.size) (hab : a < b) : ansB s a b = allD (seg s a b) := by
  unfold ansB; rw [if_neg (by omega), if_neg (by omega)]; simp
theorem ansN_past (s : ByteArray) (a b : Int) (h : (s.size : Int) < b) : ansN s a b = 0 := by unfold ansN; rw [if_pos h]
theorem ansB_past (s : ByteArray) (a b : Int) (h : (s.size : Int) < b) : ansB s a b = false := by unfold ansB; rw [if_pos h]

section
variable (p D q : ByteArray) (n : Nat)
theorem pos_D (hD : D.data.toList = dec n) : 0 < D.size := by
  have h := dec_pos n
  rw [← hD, len_list] at h; omega

theorem read_num (hn : (n : Int) ≤ 9223372036854775807) : num (dec n) = n := by
  rw [num_good (dec_allD n), dec_val n (by omega), wrap64_of (by omega) hn]

theorem law1 (hD : D.data.toList = dec n) (hn : (n : Int) ≤ 9223372036854775807) :
    ansN (p ++ D ++ q) p.size ((p.size : Int) + D.size) = n ∧ ansB (p ++ D ++ q) p.size ((p.size : Int) + D.size) = true := by
  have h0 := pos_D D n hD
  have hs := cat_size p D q
  rw [show (p.size : Int) + D.size = ((p.size + D.size : Nat) : Int) by omega, ansN_eq _ _ _ (by omega) (by omega), ansB_eq _ _ _ (by omega) (by omega), seg_read, hD]
  exact ⟨read_num n hn, dec_allD n⟩

theorem law2_good (hD : D.data.toList = dec n) (hn : (n : Int) ≤ 9223372036854775807) (hq : 0 < q.size) (h1 : 48 ≤ (q[0].toNat : Int)) (h2 : (q[0].toNat : Int) ≤ 57) :
    ansN (p ++ D ++ q) p.size ((p.size : Int) + D.size + 1) = wrap64 (wrap64 ((n : Int) * 10) + ((q[0].toNat : Int) - 48)) ∧ ansB (p ++ D ++ q) p.size ((p.size : Int) + D.size + 1) = true := by
  have hs := cat_size p D q
  have hd : isD q[0] = true := isD_true h1 h2
  rw [show (p.size : Int) + D.size + 1 = ((p.size + D.size + 1 : Nat) : Int) by omega, ansN_eq _ _ _ (by omega) (by omega), ansB_eq _ _ _ (by omega) (by omega), seg_more p D q hq, hD]
  have ha : allD (dec n ++ [q[0]]) = true := by rw [allD_append, dec_allD, allD_cons, hd]; rfl
  refine ⟨?_, ha⟩
  rw [num_good ha]
  have := step_right (dec n) q[0] n (by rw [dec_val n (by omega), wrap64_of (by omega) hn])
  rw [← this]; rfl

theorem law2_bad (hD : D.data.toList = dec n) (hq : 0 < q.size) (h : isD q[0] = false) :
    ansN (p ++ D ++ q) p.size ((p.size : Int) + D.size + 1) = 0 ∧ ansB (p ++ D ++ q) p.size ((p.size : Int) + D.size + 1) = false := by
  have hs := cat_size p D q
  rw [show (p.size : Int) + D.size + 1 = ((p.size + D.size + 1 : Nat) : Int) by omega, ansN_eq _ _ _ (by omega) (by omega), ansB_eq _ _ _ (by omega) (by omega), seg_more p D q hq, hD]
  have ha : allD (dec n ++ [q[0]]) = false := by rw [allD_append, allD_cons, h]; simp
  exact ⟨num_bad ha, ha⟩

theorem law3 (hD : D.data.toList = dec n) (hp : p.size - 1 < p.size) (h : isD p[p.size - 1] = false) :
    ansN (p ++ D ++ q) ((p.size : Int) - 1) ((p.size : Int) + D.size) = 0 ∧ ansB (p ++ D ++ q) ((p.size : Int) - 1) ((p.size : Int) + D.size) = false := by
  have h0 := pos_D D n hD
  have hs := cat_size p D q
  rw [show (p.size : Int) + D.size = ((p.size + D.size : Nat) : Int) by omega, show (p.size : Int) - 1 = ((p.size - 1 : Nat) : Int) by omega, ansN_eq _ _ _ (by omega) (by omega), ansB_eq _ _ _ (by omega) (by omega)]
  have hb := bad_at (p ++ D ++ q) (p.size - 1) (p.size - 1) (p.size + D.size) (Nat.le_refl _) (by omega) (by omega) (by rw [get_pre p D q _ hp]; exact h)
  exact ⟨num_bad hb, hb⟩

theorem q_cases (hD : D.data.toList = dec n) (hn : (n : Int) ≤ 9223372036854775807) :
    (q.size : Int) ≤ 0 ∨
    (∃ hq : 0 < q.size, 48 ≤ (q[0].toNat : Int) ∧ (q[0].toNat : Int) ≤ 57 ∧ ansN (p ++ D ++ q) p.size ((p.size : Int) + D.size + 1) = wrap64 (wrap64 ((n : Int) * 10) + ((q[0].toNat : Int) - 48)) ∧ ansB (p ++ D ++ q) p.size ((p.size : Int) + D.size + 1) = true) ∨
    (∃ hq : 0 < q.size, (q[0].toNat : Int) < 48 ∧ ansN (p ++ D ++ q) p.size ((p.size : Int) + D.size + 1) = 0 ∧ ansB (p ++ D ++ q) p.size ((p.size : Int) + D.size + 1) = false) ∨
    (∃ hq : 0 < q.size, 57 < (q[0].toNat : Int) ∧ ansN (p ++ D ++ q) p.size ((p.size : Int) + D.size + 1) = 0 ∧ ansB (p ++ D ++ q) p.size ((p.size : Int) + D.size + 1) = false) := by
  rcases Nat.eq_zero_or_pos q.size with h | h
  · exact .inl (by omega)
  · rcases (show (48 ≤ (q[0].toNat : Int) ∧ (q[0].toNat : Int) ≤ 57) ∨ (q[0].toNat : Int) < 48 ∨ 57 < (q[0].toNat : Int) by omega) with ⟨h1, h2⟩ | h1 | h1
    · exact .inr (.inl ⟨h, h1, h2, law2_good p D q n hD hn h h1 h2⟩)
    · exact .inr (.inr (.inl ⟨h, h1, law2_bad p D q n hD h (isD_lt h1)⟩))
    · exact .inr (.inr (.inr ⟨h, h1, law2_bad p D q n hD h (isD_gt h1)⟩))

theorem p_cases (hD : D.data.toList = dec n) :
    (p.size : Int) ≤ 0 ∨
    (∃ hp : p.size - 1 < p.size, 48 ≤ (p[p.size - 1].toNat : Int) ∧ (p[p.size - 1].toNat : Int) ≤ 57) ∨
    (∃ hp : p.size - 1 < p.size, (p[p.size - 1].toNat : Int) < 48 ∧ ansN (p ++ D ++ q) ((p.size : Int) - 1) ((p.size : Int) + D.size) = 0 ∧ ansB (p ++ D ++ q) ((p.size : Int) - 1) ((p.size : Int) + D.size) = false) ∨
    (∃ hp : p.size - 1 < p.size, 57 < (p[p.size - 1].toNat : Int) ∧ ansN (p ++ D ++ q) ((p.size : Int) - 1) ((p.size : Int) + D.size) = 0 ∧ ansB (p ++ D ++ q) ((p.size : Int) - 1) ((p.size : Int) + D.size) = false) := by
  rcases Nat.eq_zero_or_pos p.size with h | h
  · exact .inl (by omega)
  · have hp : p.size - 1 < p.size := by omega
    rcases (show (48 ≤ (p[p.size - 1].toNat : Int) ∧ (p[p.size - 1].toNat : Int) ≤ 57) ∨ (p[p.size - 1].toNat : Int) < 48 ∨ 57 < (p[p.size - 1].toNat : Int) by omega) with ⟨h1, h2⟩ | h1 | h1
    · exact .inr (.inl ⟨hp, h1, h2⟩)
    · exact .inr (.inr (.inl ⟨hp, h1, law3 p D q n hD hp (isD_lt h1)⟩))
    · exact .inr (.inr (.inr ⟨hp, h1, law3 p D q n hD hp (isD_gt h1)⟩))
end
end Go.Proofs.Qxb6605335a.Dig
