/-
  The decimal text of a number, least digit first and in order; no Go in sight.
-/
import Derived.Test.Qxb6605400aNum
namespace Go.Proofs.Qxb6605400a.Num

/-- the byte of the last digit -/
def ch (x : Nat) : UInt8 := UInt8.ofNat (48 + x % 10)
/-- the digits of x, the least first, at least one, at most f -/
def rdF : Nat → Nat → List UInt8
  | 0, _ => []
  | f + 1, x => ch x :: (if x / 10 = 0 then [] else rdF f (x / 10))
/-- the decimal text -/
def dec (x : Nat) : List UInt8 := (rdF 20 x).reverse

theorem ch_toNat (x : Nat) : (ch x).toNat = 48 + x % 10 := by
  unfold ch; rw [UInt8.toNat_ofNat']; omega
theorem ch_isD (x : Nat) : isD (ch x) = true := by simp [isD, ch_toNat]; omega
theorem rdF_last (f x : Nat) (h : x / 10 = 0) : rdF (f + 1) x = [ch x] := by rw [rdF, if_pos h]
theorem rdF_more (f x : Nat) (h : x / 10 ≠ 0) : rdF (f + 1) x = ch x :: rdF f (x / 10) := by rw [rdF, if_neg h]
theorem rdF_isD (f x : Nat) : ∀ c ∈ rdF f x, isD c = true := by
  induction f generalizing x with
  | zero => simp [rdF]
  | succ f ih =>
    intro c hc
    rw [rdF] at hc
    rcases List.mem_cons.1 hc with h | h
    · rw [h]; exact ch_isD x
    · split at h
      · simp at h
      · exact ih _ c h
theorem rdF_len (f x : Nat) : (rdF f x).length ≤ f := by
  induction f generalizing x with
  | zero => simp [rdF]
  | succ f ih =>
    rw [rdF]; split
    · simp
    · have := ih (x / 10); simp; omega
/-- the greatest digit is not 0 but for the number 0 -/
theorem rdF_last_ne (f x : Nat) (h0 : 0 < x) (h : x < 10 ^ (f + 1)) : ∃ t c, rdF (f + 1) x = t ++ [c] ∧ c ≠ 48 := by
  induction f generalizing x with
  | zero =>
    have hx : x < 10 := by simpa using h
    refine ⟨[], ch x, rdF_last 0 x (by omega), ?_⟩
    intro e
    have := congrArg UInt8.toNat e
    rw [ch_toNat] at this
    simp at this; omega
  | succ f ih =>
    by_cases hz : x / 10 = 0
    · refine ⟨[], ch x, rdF_last _ x hz, ?_⟩
      intro e
      have := congrArg UInt8.toNat e
      rw [ch_toNat] at this
      simp at this; omega
    · obtain ⟨t, c, e, hc⟩ := ih (x / 10) (by omega) (by rw [Nat.pow_succ] at h; omega)
      exact ⟨ch x :: t, c, by rw [rdF_more _ x hz, e]; rfl, hc⟩
theorem dec_isD (x : Nat) : ∀ c ∈ dec x, isD c = true := by
  intro c hc
  exact rdF_isD 20 x c (by simpa [dec] using hc)
theorem dec_len (x : Nat) : (dec x).length ≤ 20 := by
  unfold dec; rw [List.length_reverse]; exact rdF_len 20 x
theorem dec_ne (x : Nat) : dec x ≠ [] := by
  unfold dec; rw [rdF]; simp
theorem dec_zero : dec 0 = [48] := rfl
theorem dec_head (x : Nat) (h0 : 0 < x) (h : x < 100000000000000000000) : ∃ c t, dec x = c :: t ∧ c ≠ 48 ∧ isD c = true := by
  obtain ⟨t, c, e, hc⟩ := rdF_last_ne 19 x h0 (by simpa using h)
  refine ⟨c, t.reverse, by unfold dec; rw [e]; simp, hc, ?_⟩
  apply rdF_isD 20 x
  rw [e]; simp
end Go.Proofs.Qxb6605400a.Num
