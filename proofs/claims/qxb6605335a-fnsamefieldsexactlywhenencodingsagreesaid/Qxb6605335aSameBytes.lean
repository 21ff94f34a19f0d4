/-
  sameBytes decides equality of two lists of bytes.
-/
import Derived.Test.Qxb6605335aClone
import Derived.Test.Qxb6605335aAppDec
namespace Go.Proofs.Qxb6605335a
open Go.RowKit
set_option linter.unusedVariables false

/-- the elements of a slice at a, n of them, are the bytes l -/
def Byts (w : World) (a : Option Addr) (n : Nat) (l : List UInt8) : Prop :=
  l.length = n ∧ (n = 0 ∨ ∃ b off, a = some ⟨b, off, none⟩ ∧ ∀ i c, l[i]? = some c → w.cell? ⟨b, off + i, none⟩ = some (bv c))

theorem bne_at {l m : List UInt8} {k : Nat} {s t : UInt8} (hs : l[k]? = some s) (ht : m[k]? = some t) (h : ((s.toNat : Int) != (t.toNat : Int)) = true) : false = decide (l = m) := by
  symm
  rw [decide_eq_false_iff_not]
  rintro rfl
  rw [hs] at ht
  simp at ht
  subst ht
  simp at h
theorem beq_at {l m : List UInt8} {k : Nat} {s t : UInt8} (hs : l[k]? = some s) (ht : m[k]? = some t) (h : ((s.toNat : Int) != (t.toNat : Int)) = false) (he : l.take k = m.take k) : l.take (k + 1) = m.take (k + 1) := by
  have e : s = t := by
    have h1 : (s.toNat : Int) = t.toNat := by simpa using h
    exact UInt8.toNat_inj.1 (by omega)
  rw [List.take_add_one, List.take_add_one, hs, ht, he, e]
theorem beq_all {l m : List UInt8} {n : Nat} (hs : l.length = n) (ht : m.length = n) (h : l.take n = m.take n) : true = decide (l = m) := by
  symm
  rw [decide_eq_true_iff]
  rwa [List.take_of_length_le (by omega), List.take_of_length_le (by omega)] at h

set_option maxHeartbeats 1000000 in
theorem bsame_len (a b : Option Addr) (n m c d : Nat) (w : World) (hn : (n : Int) ≤ 9223372036854775807) (hm : (m : Int) ≤ 9223372036854775807) (h : ((n : Int) == (m : Int)) = false) :
    Calls Try.prog 19 #[.slice a n c, .slice b m d] w fun e w' => e = .returned (.bool false) ∧ ∃ j, w' = w.drewN j := by
  go_enter Try.func19, Try.ntmps19
  go_wp2
  go_ret
  exact ⟨rfl, 0, rfl⟩

set_option maxHeartbeats 1000000 in
theorem bsame_zero (a b : Option Addr) (c d : Nat) (w : World) :
    Calls Try.prog 19 #[.slice a 0 c, .slice b 0 d] w fun e w' => e = .returned (.bool true) ∧ ∃ j, w' = w.drewN j := by
  go_enter Try.func19, Try.ntmps19
  go_wp2
  refine wp_loop_rounds 1 ?_
  rw [rounds_succ]
  go_wp2
  go_ret
  exact ⟨rfl, 0, rfl⟩

set_option maxHeartbeats 1000000 in
theorem bsame_some (b1 o1 b2 o2 : Nat) (n c d : Nat) (ss ts : List UInt8) (w : World) (hn : (n : Int) ≤ 9223372036854775807) (hs : ss.length = n) (ht : ts.length = n)
    (h1 : ∀ i s, ss[i]? = some s → w.cell? ⟨b1, o1 + i, none⟩ = some (bv s)) (h2 : ∀ i s, ts[i]? = some s → w.cell? ⟨b2, o2 + i, none⟩ = some (bv s)) :
    Calls Try.prog 19 #[.slice (some ⟨b1, o1, none⟩) n c, .slice (some ⟨b2, o2, none⟩) n d] w fun e w' => e = .returned (.bool (decide (ss = ts))) ∧ ∃ j, w' = w.drewN j := by
  have H1 : Hid (∀ i s, ss[i]? = some s → w.cell? ⟨b1, o1 + i, none⟩ = some (bv s)) := h1
  have H2 : Hid (∀ i s, ts[i]? = some s → w.cell? ⟨b2, o2 + i, none⟩ = some (bv s)) := h2
  have HS : Hid (ss.length = n) := hs
  have HT : Hid (ts.length = n) := ht
  clear h1 h2 hs ht
  go_enter Try.func19, Try.ntmps19
  go_wp2
  go_loopw [5] (fun i wr => ∃ k j : Nat, k ≤ n ∧ i = .int .i64 k ∧ wr = w.drewN j ∧ Hid (ss.take k = ts.take k)) (fun i _ => n - (intOf i).toNat)
  case atStart => exact ⟨0, 0, by omega, rfl, rfl, by unfold Hid; simp⟩
  case round =>
    obtain ⟨k, j, hk, rfl, rfl, HE⟩ := hrel
    by_cases hlt : k < n
    · have hks : k < ss.length := by have := HS.out; omega
      have hkt : k < ts.length := by have := HT.out; omega
      obtain ⟨s, es⟩ : ∃ s, ss[k]? = some s := ⟨_, List.getElem?_eq_getElem hks⟩
      obtain ⟨t, et⟩ : ∃ t, ts[k]? = some t := ⟨_, List.getElem?_eq_getElem hkt⟩
      have c1 := H1.out k s es
      have c2 := H2.out k t et
      have ES : Hid (ss[k]? = some s) := es
      have ET : Hid (ts[k]? = some t) := et
      have hkn : (0 : Int) ≤ (k : Int) := by omega
      have hkn2 : (k : Int) < (n : Int) := by omega
      clear es et hks hkt
      go_wp2
      go_quiet (fail)
      go_wp2
      · go_ret
        exact ⟨ret_bool (bne_at ES.out ET.out (by assumption)), j + nq, by simp⟩
      · go_roundw
        case rel => exact ⟨k + 1, j + nq, by omega, by go_num, rfl, beq_at ES.out ET.out (by assumption) HE.out⟩
        case measure => simp [intOf]; omega
    · go_wp2
      go_ret
      obtain rfl : k = n := by omega
      exact ⟨ret_bool (beq_all HS.out HT.out HE.out), j, rfl⟩

/-- sameBytes: are the two lists one? -/
theorem bsame_any (a b : Option Addr) (n m c d : Nat) (ss ts : List UInt8) (w : World) (hn : (n : Int) ≤ 9223372036854775807) (hm : (m : Int) ≤ 9223372036854775807) (h1 : Byts w a n ss) (h2 : Byts w b m ts) :
    Calls Try.prog 19 #[.slice a n c, .slice b m d] w fun e w' => e = .returned (.bool (decide (ss = ts))) ∧ ∃ j, w' = w.drewN j := by
  by_cases h : n = m
  · subst h
    rcases h1 with ⟨l1, h1⟩
    rcases h2 with ⟨l2, h2⟩
    rcases Nat.eq_zero_or_pos n with h0 | h0
    · subst h0
      rw [List.length_eq_zero_iff] at l1 l2
      subst l1 l2
      exact bsame_zero a b c d w
    · obtain ⟨b1, o1, rfl, g1⟩ := h1.resolve_left (by omega)
      obtain ⟨b2, o2, rfl, g2⟩ := h2.resolve_left (by omega)
      exact bsame_some b1 o1 b2 o2 n c d ss ts w hn l1 l2 g1 g2
  · have e : decide (ss = ts) = false := by
      rw [decide_eq_false_iff_not]
      rintro rfl
      exact h (h1.1.symm.trans h2.1)
    rw [e]
    exact bsame_len a b n m c d w hn hm (by simp; omega)

/-- an owned row of bytes, as a slice of bytes -/
theorem own_byts {w : World} {base : Nat} {v : Value} {n : Nat} {l : List UInt8} (h : w.ownsRow base 5 1 v n (l.map bv)) :
    ∃ a cap, v = .slice a n cap ∧ Byts w a n l := by
  have hl : l.length = n := by have := h.1; simpa using this
  rcases h.2 with ⟨rfl, rfl⟩ | ⟨g, cap, cur, rfl, r⟩
  · exact ⟨none, 0, rfl, ⟨hl, .inl rfl⟩⟩
  · refine ⟨_, cap, rfl, ⟨hl, ?_⟩⟩
    rcases Nat.eq_zero_or_pos n with h0 | h0
    · exact .inl h0
    · refine .inr ⟨g, 0, rfl, fun i s hs => ?_⟩
      have := h.cells rfl i (bv s) (by simp [hs])
      rwa [Addr.add_lit] at this
end Go.Proofs.Qxb6605335a
