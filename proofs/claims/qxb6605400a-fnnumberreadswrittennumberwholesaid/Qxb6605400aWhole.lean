/-
  A written number ahead of a tail that the grammar cannot go on with is read whole: no Go in sight.
-/
import Derived.Test.Qxb6605400aAppI
namespace Go.Proofs.Qxb6605400a.Num

/-- fraction and exponent as they are written -/
def fracT (wf : Bool) (f : Nat) : List UInt8 := if wf = true then 46 :: dec f else []
def expT (we : Bool) (x : Int) : List UInt8 := if we = true then 101 :: sdec x else []
/-- the grammar cannot go on with this tail -/
def OkTail (wf we : Bool) (t : List UInt8) : Prop :=
  ∀ c, t.head? = some c → isD c = false ∧ (we = false → c ≠ 101 ∧ c ≠ 69) ∧ (wf = false → we = false → c ≠ 46)

theorem get_of {L : List UInt8} {p : Nat} {X : List UInt8} (h : L.drop p = X) : L[p]? = X.head? := by rw [← h, List.head?_drop]
theorem drop_more {L : List UInt8} {p : Nat} {A Y : List UInt8} (h : L.drop p = A ++ Y) : L.drop (p + A.length) = Y := by
  rw [← List.drop_drop, h, List.drop_left]
theorem takeWhile_none {Y : List UInt8} (hY : ∀ c, Y.head? = some c → isD c = false) : Y.takeWhile isD = [] := by
  cases Y with
  | nil => rfl
  | cons c t => rw [List.takeWhile_cons, hY c rfl]; rfl
theorem dEnd_of {L : List UInt8} {p : Nat} {D Y : List UInt8} (h : L.drop p = D ++ Y) (hD : ∀ c ∈ D, isD c = true) (hY : ∀ c, Y.head? = some c → isD c = false) : dEnd L p = p + D.length := by
  unfold dEnd
  rw [h, List.takeWhile_append_of_pos hD, takeWhile_none hY, List.append_nil]
theorem nX_of {L : List UInt8} {q x : Nat} {Y : List UInt8} (h : L.drop q = dec x ++ Y) (hY : ∀ c, Y.head? = some c → isD c = false) : nX L q = (q + (dec x).length, true) := by
  unfold nX
  rw [dEnd_of h (dec_isD x) hY]
  have : 0 < (dec x).length := List.length_pos_iff.2 (dec_ne x)
  rw [decide_eq_true (by omega)]
theorem head_dec (x : Nat) (Y : List UInt8) : ∃ c, (dec x ++ Y).head? = some c ∧ isD c = true := by
  cases h : dec x with
  | nil => exact absurd h (dec_ne x)
  | cons c t => exact ⟨c, rfl, dec_isD x c (by rw [h]; simp)⟩
theorem nE_exp {L : List UInt8} {p : Nat} {x : Int} {Y : List UInt8} (h : L.drop p = 101 :: (sdec x ++ Y)) (hY : ∀ c, Y.head? = some c → isD c = false) : nE L p = (p + (1 + (sdec x).length), true) := by
  have h0 : L[p]? = some 101 := by rw [get_of h]; rfl
  have h1 : L.drop (p + 1) = sdec x ++ Y := by
    have := drop_more (A := [101]) (Y := sdec x ++ Y) (by simpa using h)
    simpa using this
  unfold nE
  rw [if_pos (.inl h0)]
  unfold sdec at h1 ⊢
  split at h1
  · rename_i hx
    rw [if_pos hx]
    have h2 : L[p + 1]? = some 45 := by rw [get_of h1]; rfl
    have h3 : L.drop (p + 1 + 1) = dec x.natAbs ++ Y := by
      have := drop_more (A := [45]) (Y := dec x.natAbs ++ Y) (by simpa using h1)
      simpa using this
    unfold sgn
    rw [if_pos (.inr h2), nX_of h3 hY, List.length_cons]
    congr 1; omega
  · rename_i hx
    rw [if_neg hx]
    obtain ⟨c, hc, hd⟩ := head_dec x.natAbs Y
    have hne := isD_ne hd
    have h2 : ¬ (L[p + 1]? = some 43 ∨ L[p + 1]? = some 45) := by
      rw [get_of h1, hc]
      simp only [Option.some.injEq]
      rintro (e | e)
      · exact hne.1 e
      · exact hne.2.1 e
    unfold sgn
    rw [if_neg h2, nX_of h1 hY]
    congr 1; omega
theorem nE_any {L : List UInt8} {p : Nat} {wf we : Bool} {x : Int} {t : List UInt8} (h : L.drop p = expT we x ++ t) (ht : OkTail wf we t) : nE L p = (p + (expT we x).length, true) := by
  unfold expT at h ⊢
  split at h
  · rename_i hw
    rw [if_pos hw, nE_exp (by simpa using h) (fun c hc => (ht c hc).1), List.length_cons]
    congr 1; omega
  · rename_i hw
    rw [if_neg hw]
    have hw' : we = false := by simpa using hw
    unfold nE
    rw [if_neg]
    · rfl
    · rw [get_of h]
      simp only [List.nil_append]
      rintro (e | e)
      · exact ((ht _ e).2.1 hw').1 rfl
      · exact ((ht _ e).2.1 hw').2 rfl
/-- what stands behind the fraction begins with no digit -/
theorem head_exp {wf we : Bool} {x : Int} {t : List UInt8} (ht : OkTail wf we t) : ∀ c, (expT we x ++ t).head? = some c → isD c = false ∧ (wf = false → c ≠ 46) := by
  intro c hc
  unfold expT at hc
  split at hc
  · simp at hc; subst hc
    exact ⟨by decide, fun _ => by decide⟩
  · rename_i hw
    have hw' : we = false := by simpa using hw
    simp at hc
    exact ⟨(ht c hc).1, fun hf => (ht c hc).2.2 hf hw'⟩
theorem nF_any {L : List UInt8} {p : Nat} {wf we : Bool} {f : Nat} {x : Int} {t : List UInt8} (h : L.drop p = fracT wf f ++ (expT we x ++ t)) (ht : OkTail wf we t) :
    nF L p = (p + ((fracT wf f).length + (expT we x).length), true) := by
  unfold fracT at h ⊢
  split at h
  · rename_i hw
    rw [if_pos hw]
    have h0 : L[p]? = some 46 := by rw [get_of h]; rfl
    have h1 : L.drop (p + 1) = dec f ++ (expT we x ++ t) := by
      have := drop_more (A := [46]) (Y := dec f ++ (expT we x ++ t)) (by simpa using h)
      simpa using this
    have hpos : 0 < (dec f).length := List.length_pos_iff.2 (dec_ne f)
    have hd := dEnd_of h1 (dec_isD f) (fun c hc => (head_exp ht c hc).1)
    rw [nF_dot h0, hd, if_neg (by omega), nE_any (drop_more h1) ht, List.length_cons]
    congr 1; omega
  · rename_i hw
    have hw' : wf = false := by simpa using hw
    rw [if_neg hw]
    rw [List.nil_append] at h
    unfold nF
    rw [if_neg]
    · rw [nE_any h ht]; simp
    · intro e
      rw [get_of h] at e
      exact (head_exp ht _ e).2 hw' rfl
theorem head_frac {wf we : Bool} {f : Nat} {x : Int} {t : List UInt8} (ht : OkTail wf we t) : ∀ c, (fracT wf f ++ (expT we x ++ t)).head? = some c → isD c = false := by
  intro c hc
  unfold fracT at hc
  split at hc
  · simp at hc; subst hc; decide
  · simp at hc
    exact (head_exp (wf := wf) ht c (by simpa using hc)).1
theorem nI_any {L : List UInt8} {p : Nat} {N : Nat} {wf we : Bool} {f : Nat} {x : Int} {t : List UInt8} (hN : N < 100000000000000000000) (h : L.drop p = dec N ++ (fracT wf f ++ (expT we x ++ t))) (ht : OkTail wf we t) :
    nI L p = (p + ((dec N).length + ((fracT wf f).length + (expT we x).length)), true) := by
  rcases Nat.eq_zero_or_pos N with h0 | h0
  · subst h0
    rw [dec_zero] at h ⊢
    have h1 : L[p]? = some 48 := by rw [get_of h]; rfl
    have h2 : L.drop (p + 1) = fracT wf f ++ (expT we x ++ t) := drop_more (A := [48]) h
    rw [nI_zero h1, nF_any h2 ht]
    simp; omega
  · obtain ⟨c, u, e, hc, hd⟩ := dec_head N h0 hN
    have h1 : L[p]? = some c := by rw [get_of h, e]; rfl
    rw [nI_dig h1 hc hd, dEnd_of h (dec_isD N) (head_frac ht), nF_any (drop_more h) ht]
    congr 1; omega
/-- the whole text -/
def text (n : Int) (wf : Bool) (f : Nat) (we : Bool) (x : Int) : List UInt8 := sdec n ++ (fracT wf f ++ expT we x)
theorem nN_any (pre t : List UInt8) (n : Int) (wf we : Bool) (f : Nat) (x : Int) (hn : n.natAbs < 100000000000000000000) (ht : OkTail wf we t) :
    nN (pre ++ (text n wf f we x ++ t)) pre.length = (pre.length + (text n wf f we x).length, true) := by
  have h : (pre ++ (text n wf f we x ++ t)).drop pre.length = sdec n ++ (fracT wf f ++ (expT we x ++ t)) := by
    rw [List.drop_left]; simp [text]
  generalize pre ++ (text n wf f we x ++ t) = L at h
  unfold text
  unfold sdec at h ⊢
  split at h
  · rename_i hx
    rw [if_pos hx]
    have h1 : L[pre.length]? = some 45 := by rw [get_of h]; rfl
    have h2 : L.drop (pre.length + 1) = dec n.natAbs ++ (fracT wf f ++ (expT we x ++ t)) := by
      have := drop_more (A := [45]) (Y := dec n.natAbs ++ (fracT wf f ++ (expT we x ++ t))) (by simpa using h)
      simpa using this
    rw [nN_neg h1, nI_any hn h2 ht]
    simp; omega
  · rename_i hx
    rw [if_neg hx]
    obtain ⟨c, hc, hd⟩ := head_dec n.natAbs (fracT wf f ++ (expT we x ++ t))
    rw [nN_pos (by rw [get_of h, hc]; simp; exact (isD_ne hd).2.1), nI_any hn h ht]
    simp
end Go.Proofs.Qxb6605400a.Num
