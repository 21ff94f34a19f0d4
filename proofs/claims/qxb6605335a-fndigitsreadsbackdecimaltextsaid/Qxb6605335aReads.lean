/-
  FnDigitsReadsBackDecimalText: the walk.
-/
import Derived.Test.Qxb6605335aDigits
import Derived.Test.Qxb6605335aAppDec
import Derived.Test.Qxb6605335aReadLaw
import Derived.OpenShut
import Derived.Laws.IdiomStrings
namespace Go.Proofs.Qxb6605335a.fnDigitsReadsBackDecimalText
open Go.RowKit
set_option linter.unusedVariables false

set_option maxHeartbeats 1000000 in
theorem bytes_big (p q : ByteArray) (n : Int) (hp : p.size ≤ maxLen) (hq : q.size ≤ maxLen) (h : 1048576 < (p.size : Int) + q.size) (w : World) :
    Calls Try.prog 12 #[.string p, .string q, .int .i64 n] w fun e w' => e = .returned (.bool false) ∧ w' = w := by
  unfold maxLen at hp hq
  by_cases h1 : 1048576 < (p.size : Int)
  · go_enter Try.func12, Try.ntmps12
    go_wp2
    go_ret
    exact ⟨rfl, rfl⟩
  · by_cases h2 : 1048576 < (q.size : Int)
    · go_enter Try.func12, Try.ntmps12
      go_wp2
      go_ret
      exact ⟨rfl, rfl⟩
    · go_enter Try.func12, Try.ntmps12
      go_wp2
      go_ret
      exact ⟨rfl, rfl⟩

set_option maxHeartbeats 1000000 in
theorem bytes_small (p q : ByteArray) (n : Int) (h : (p.size : Int) + q.size ≤ 1048576) (w : World) :
    Calls Try.prog 12 #[.string p, .string q, .int .i64 n] w fun e w' => e = .returned (.bool true) ∧ w' = w := by
  go_enter Try.func12, Try.ntmps12
  go_wp2
  go_ret
  exact ⟨rfl, rfl⟩

/-- what the owned row of bytes is, and what its conversion gives -/
theorem conv_own {w : World} {base : Nat} {v : Value} {n : Nat} {l : List UInt8} (h : w.ownsRow base 5 1 v n (l.map bv)) (hn : 0 < n) :
    ∃ g cap, v = .slice (some ⟨g, 0, none⟩) n cap ∧ (convert 26 9 v).run Try.prog w = .ok (.string ⟨l.toArray⟩) w := by
  have hl : l.length = n := by have := h.1; simpa using this
  rcases h.2 with ⟨_, h0⟩ | ⟨g, cap, cur, rfl, r⟩
  · omega
  · refine ⟨g, cap, rfl, ?_⟩
    rw [← hl]
    refine run_convert_bytes_back w 26 9 5 _ cap l Try.underlying26 Try.underlying5 Try.underlying9 ?_
    intro j hj
    exact h.cells rfl j _ (by simp [List.getElem?_eq_getElem hj])

set_option maxHeartbeats 1000000 in
theorem walk_big (p q : ByteArray) (n : Int) (w0 : p.size ≤ maxLen) (w1 : q.size ≤ maxLen) (h : 1048576 < (p.size : Int) + q.size) (w : World) :
    Calls Try.prog 4 #[.string p, .string q, .int .i64 n] w fun e w' => e = .returned (.bool true) ∧ Below w.heap.size w w' := by
  go_enter Try.func4, Try.ntmps4
  go_wp2_with (go_at_call 12; refine (bytes_big _ _ _ w0 w1 h _).mono ?_; rintro e w' ⟨rfl, rfl⟩)
  go_ret
  exact ⟨rfl, Below.refl _ _⟩

set_option maxHeartbeats 1000000 in
theorem walk_neg (p q : ByteArray) (n : Int) (h : (p.size : Int) + q.size ≤ 1048576) (hn : n < 0) (w : World) :
    Calls Try.prog 4 #[.string p, .string q, .int .i64 n] w fun e w' => e = .returned (.bool true) ∧ Below w.heap.size w w' := by
  go_enter Try.func4, Try.ntmps4
  go_wp2_with (go_at_call 12; refine (bytes_small _ _ _ h _).mono ?_; rintro e w' ⟨rfl, rfl⟩)
  go_ret
  exact ⟨rfl, Below.refl _ _⟩

set_option maxHeartbeats 1000000 in
theorem walk_pos (p q : ByteArray) (n : Nat) (h : (p.size : Int) + q.size ≤ 1048576) (hn : (n : Int) ≤ 9223372036854775807) (w : World) :
    Calls Try.prog 4 #[.string p, .string q, .int .i64 n] w fun e w' => e = .returned (.bool true) ∧ Below w.heap.size w w' := by
  have hn0 : (0 : Int) ≤ n := by omega
  go_enter Try.func4, Try.ntmps4
  go_wp2_with (go_at_call 12; refine (bytes_small _ _ _ h _).mono ?_; rintro e w' ⟨rfl, rfl⟩)
  refine (appDec_any w'.heap.size _ 0 [] n _ hn (World.ownsRow_nil _ _ _ _) (Nat.le_refl _) (by omega)).mono ?_
  rintro e w1 ⟨v', rfl, hown, hbel⟩
  obtain ⟨D, hD⟩ : ∃ D : ByteArray, D = ⟨(Dig.dec n).toArray⟩ := ⟨_, rfl⟩
  have hd1 := Dig.dec_pos n
  have hd2 := Dig.dec_len n
  obtain ⟨g, cap, rfl, hconv⟩ := conv_own (l := Dig.dec n) (by simpa using hown) (by omega)
  rw [← hD] at hconv
  have hDs : (D.size : Int) ≤ 24 := by rw [hD]; simp [ByteArray.size]; omega
  have hDl : D.data.toList = Dig.dec n := by rw [hD]
  have hS : (p ++ D ++ q).size ≤ maxLen := by rw [Dig.cat_size]; unfold maxLen; omega
  obtain ⟨e1, b1⟩ := Dig.law1 p D q n hDl hn
  have HL : Hid (D.data.toList = Dig.dec n) := hDl
  have HS : Hid ((p ++ D ++ q).size ≤ maxLen) := hS
  clear hown hD hd1 hd2 hDl hS
  have e4 := Dig.ansN_past (p ++ D ++ q) p.size ((p.size : Int) + D.size + q.size + 1) (by rw [Dig.cat_size]; omega)
  have b4 := Dig.ansB_past (p ++ D ++ q) p.size ((p.size : Int) + D.size + q.size + 1) (by rw [Dig.cat_size]; omega)
  go_wp2_with fail
  rcases Dig.q_cases p D q n HL.out hn with hq | ⟨hq, hc1, hc2, e2, b2⟩ | ⟨hq, hc1, e2, b2⟩ | ⟨hq, hc1, e2, b2⟩
  all_goals
    rcases Dig.p_cases p D q n HL.out with hp | ⟨hp, hd1, hd2⟩ | ⟨hp, hd1, e3, b3⟩ | ⟨hp, hd1, e3, b3⟩
  all_goals
    go_wp2_with (go_at_call 10; refine (zzdigits_any _ _ _ HS.out (by omega) _).mono ?_; rintro e w' ⟨rfl, rfl⟩)
  all_goals
    go_ret
    exact ⟨rfl, by assumption⟩

theorem walk (a0 : ByteArray) (a1 : ByteArray) (a2 : Int) (w0 : a0.size ≤ maxLen) (w1 : a1.size ≤ maxLen) (w2 : (Lit.int .i64 a2).wf = true) (w : World) :
    Calls Try.prog 4 #[.string a0, .string a1, .int .i64 a2] w fun e w' => e = .returned (.bool true) ∧ Below w.heap.size w w' := by
  obtain ⟨lo, hi⟩ := bounds_i64 w2
  by_cases h : 1048576 < (a0.size : Int) + a1.size
  · exact walk_big a0 a1 a2 w0 w1 h w
  · by_cases hn : a2 < 0
    · exact walk_neg a0 a1 a2 (by omega) hn w
    · have := walk_pos a0 a1 a2.toNat (by omega) (by omega) w
      rw [show ((a2.toNat : Nat) : Int) = a2 by omega] at this
      exact this
end Go.Proofs.Qxb6605335a.fnDigitsReadsBackDecimalText
