/-
  Slices of strings; sameFields decides equality of the lists.
-/
import Derived.Test.Qxb6605335aRows
import Derived.WalkKit
import Derived.WalkSpells
import Derived.Deep.QuietTactic
import Derived.BigQuiet
namespace Go.Proofs.Qxb6605335a
open Go.RowKit
set_option linter.unusedVariables false

/-- the elements of a slice at a, n of them, are the strings ss -/
def Strs (w : World) (a : Option Addr) (n : Nat) (ss : List ByteArray) : Prop :=
  ss.length = n ∧ (n = 0 ∨ ∃ b off, a = some ⟨b, off, none⟩ ∧ ∀ i s, ss[i]? = some s → w.cell? ⟨b, off + i, none⟩ = some (.string s))

theorem str_eq {s t : ByteArray} (h : s.toList = t.toList) : s = t := by
  rw [ByteArray.toList_eq, ByteArray.toList_eq] at h
  exact Go.WideShapes.bytes_inj h
theorem ne_at {ss ts : List ByteArray} {k : Nat} {s t : ByteArray} (hs : ss[k]? = some s) (ht : ts[k]? = some t) (h : (!s.toList == t.toList) = true) : false = decide (ss = ts) := by
  symm
  rw [decide_eq_false_iff_not]
  rintro rfl
  rw [hs] at ht
  simp at ht
  subst ht
  simp at h
theorem eq_at {ss ts : List ByteArray} {k : Nat} {s t : ByteArray} (hs : ss[k]? = some s) (ht : ts[k]? = some t) (h : (!s.toList == t.toList) = false) (he : ss.take k = ts.take k) : ss.take (k + 1) = ts.take (k + 1) := by
  have e : s = t := str_eq (by simpa using h)
  rw [List.take_add_one, List.take_add_one, hs, ht, he, e]
theorem eq_all {ss ts : List ByteArray} {n : Nat} (hs : ss.length = n) (ht : ts.length = n) (h : ss.take n = ts.take n) : true = decide (ss = ts) := by
  symm
  rw [decide_eq_true_iff]
  rwa [List.take_of_length_le (by omega), List.take_of_length_le (by omega)] at h
theorem ret_bool {p q : Bool} (h : p = q) : Ending.returned (.bool p) = .returned (.bool q) := by rw [h]

set_option maxHeartbeats 1000000 in
theorem same_len (a b : Option Addr) (n m c d : Nat) (w : World) (hn : (n : Int) ≤ 9223372036854775807) (hm : (m : Int) ≤ 9223372036854775807) (h : ((n : Int) == (m : Int)) = false) :
    Calls Try.prog 29 #[.slice a n c, .slice b m d] w fun e w' => e = .returned (.bool false) ∧ ∃ j, w' = w.drewN j := by
  go_enter Try.func29, Try.ntmps29
  go_wp2
  go_ret
  exact ⟨rfl, 0, rfl⟩

set_option maxHeartbeats 1000000 in
theorem same_zero (a b : Option Addr) (c d : Nat) (w : World) :
    Calls Try.prog 29 #[.slice a 0 c, .slice b 0 d] w fun e w' => e = .returned (.bool true) ∧ ∃ j, w' = w.drewN j := by
  go_enter Try.func29, Try.ntmps29
  go_wp2
  refine wp_loop_rounds 1 ?_
  rw [rounds_succ]
  go_wp2
  go_ret
  exact ⟨rfl, 0, rfl⟩

set_option maxHeartbeats 1000000 in
theorem same_some (b1 o1 b2 o2 : Nat) (n c d : Nat) (ss ts : List ByteArray) (w : World) (hn : (n : Int) ≤ 9223372036854775807) (hs : ss.length = n) (ht : ts.length = n)
    (h1 : ∀ i s, ss[i]? = some s → w.cell? ⟨b1, o1 + i, none⟩ = some (.string s)) (h2 : ∀ i s, ts[i]? = some s → w.cell? ⟨b2, o2 + i, none⟩ = some (.string s)) :
    Calls Try.prog 29 #[.slice (some ⟨b1, o1, none⟩) n c, .slice (some ⟨b2, o2, none⟩) n d] w fun e w' => e = .returned (.bool (decide (ss = ts))) ∧ ∃ j, w' = w.drewN j := by
  have H1 : Hid (∀ i s, ss[i]? = some s → w.cell? ⟨b1, o1 + i, none⟩ = some (.string s)) := h1
  have H2 : Hid (∀ i s, ts[i]? = some s → w.cell? ⟨b2, o2 + i, none⟩ = some (.string s)) := h2
  have HS : Hid (ss.length = n) := hs
  have HT : Hid (ts.length = n) := ht
  clear h1 h2 hs ht
  go_enter Try.func29, Try.ntmps29
  go_wp2
  go_loopw [13, 5] (fun i _ wr => ∃ k j : Nat, k ≤ n ∧ i = .int .i64 k ∧ wr = w.drewN j ∧ Hid (ss.take k = ts.take k)) (fun i _ _ => n - (intOf i).toNat)
  case atStart => exact ⟨0, 0, by omega, rfl, rfl, by unfold Hid; simp⟩
  case round =>
    obtain ⟨k, j, hk, rfl, rfl, HE⟩ := hrel
    by_cases hlt : k < n
    · have hks : k < ss.length := by have := HS.out; omega
      have hkt : k < ts.length := by have := HT.out; omega
      obtain ⟨s, es⟩ : ∃ s, ss[k]? = some s := ⟨_, List.getElem?_eq_getElem hks⟩
      obtain ⟨t, et⟩ : ∃ t, ts[k]? = some t := ⟨_, List.getElem?_eq_getElem hkt⟩
      have c1 := H1.out k s es
      have c2 := H2.out k t et
      have ES : Hid (ss[k]? = some s) := es
      have ET : Hid (ts[k]? = some t) := et
      have hkn : (0 : Int) ≤ (k : Int) := by omega
      have hkn2 : (k : Int) < (n : Int) := by omega
      clear es et hks hkt
      go_wp2
      go_quiet (fail)
      go_wp2
      · go_ret
        exact ⟨ret_bool (ne_at ES.out ET.out (by assumption)), j + nq, by simp⟩
      · go_roundw
        case rel => exact ⟨k + 1, j + nq, by omega, by go_num, rfl, eq_at ES.out ET.out (by assumption) HE.out⟩
        case measure => simp [intOf]; omega
    · go_wp2
      go_ret
      obtain rfl : k = n := by omega
      exact ⟨ret_bool (eq_all HS.out HT.out HE.out), j, rfl⟩

/-- sameFields: are the two lists one? -/
theorem same_any (a b : Option Addr) (n m c d : Nat) (ss ts : List ByteArray) (w : World) (hn : (n : Int) ≤ 9223372036854775807) (hm : (m : Int) ≤ 9223372036854775807) (h1 : Strs w a n ss) (h2 : Strs w b m ts) :
    Calls Try.prog 29 #[.slice a n c, .slice b m d] w fun e w' => e = .returned (.bool (decide (ss = ts))) ∧ ∃ j, w' = w.drewN j := by
  by_cases h : n = m
  · subst h
    rcases h1 with ⟨l1, h1⟩
    rcases h2 with ⟨l2, h2⟩
    rcases Nat.eq_zero_or_pos n with h0 | h0
    · subst h0
      rw [List.length_eq_zero_iff] at l1 l2
      subst l1 l2
      exact same_zero a b c d w
    · obtain ⟨b1, o1, rfl, g1⟩ := h1.resolve_left (by omega)
      obtain ⟨b2, o2, rfl, g2⟩ := h2.resolve_left (by omega)
      exact same_some b1 o1 b2 o2 n c d ss ts w hn l1 l2 g1 g2
  · have e : decide (ss = ts) = false := by
      rw [decide_eq_false_iff_not]
      rintro rfl
      exact h (h1.1.symm.trans h2.1)
    rw [e]
    exact same_len a b n m c d w hn hm (by simp; omega)

theorem zzsame_any (a b : Option Addr) (n m c d : Nat) (ss ts : List ByteArray) (w : World) (hn : (n : Int) ≤ 9223372036854775807) (hm : (m : Int) ≤ 9223372036854775807) (h1 : Strs w a n ss) (h2 : Strs w b m ts) :
    Calls Try.prog 21 #[.slice a n c, .slice b m d] w fun e w' => e = .returned (.bool (decide (ss = ts))) ∧ ∃ j, w' = w.drewN j := by
  go_enter Try.func21, Try.ntmps21
  go_wp2_with (go_at_call 29; refine (same_any _ _ _ _ _ _ ss ts _ hn hm h1 h2).mono ?_; rintro e w' ⟨rfl, j, rfl⟩)
  go_ret
  exact ⟨rfl, j, rfl⟩
end Go.Proofs.Qxb6605335a
