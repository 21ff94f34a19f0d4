/-
  The number grammar: what 'number' answers, the automaton, and that the two agree. No Go in sight.
-/
namespace Go.Proofs.Qxb6605400a.Num

def isD (c : UInt8) : Bool := decide (48 ≤ (c.toNat : Int) ∧ (c.toNat : Int) ≤ 57)
/-- is there a digit at p? -/
def dAt (l : List UInt8) (p : Nat) : Bool := match l[p]? with
  | some c => isD c
  | none => false
/-- the first place at or after p that holds no digit -/
def dEnd (l : List UInt8) (p : Nat) : Nat := p + ((l.drop p).takeWhile isD).length

theorem dEnd_yes {l : List UInt8} {p : Nat} (h : dAt l p = true) : dEnd l p = dEnd l (p + 1) := by
  unfold dAt at h
  split at h
  · rename_i c hc
    have hp : p < l.length := (List.getElem?_eq_some_iff.1 hc).1
    have hg : l[p] = c := (List.getElem?_eq_some_iff.1 hc).2
    unfold dEnd
    rw [List.drop_eq_getElem_cons hp, hg, List.takeWhile_cons, if_pos h, List.length_cons]
    omega
  · simp at h
theorem dEnd_no {l : List UInt8} {p : Nat} (h : dAt l p = false) : dEnd l p = p := by
  unfold dEnd
  by_cases hp : p < l.length
  · have hc : l[p]? = some l[p] := List.getElem?_eq_getElem hp
    unfold dAt at h
    rw [hc] at h
    rw [List.drop_eq_getElem_cons hp, List.takeWhile_cons, if_neg (by simpa using h)]
    simp
  · rw [List.drop_of_length_le (by omega)]; simp
theorem dEnd_ge (l : List UInt8) (p : Nat) : p ≤ dEnd l p := by unfold dEnd; omega
theorem dEnd_le (l : List UInt8) (p : Nat) (h : p ≤ l.length) : dEnd l p ≤ l.length := by
  unfold dEnd
  have h1 : ((l.drop p).takeWhile isD).length ≤ (l.drop p).length := (List.takeWhile_prefix (p := isD) (l := l.drop p)).length_le
  rw [List.length_drop] at h1
  omega
theorem dAt_lt {l : List UInt8} {p : Nat} (h : dAt l p = true) : p < l.length := by
  unfold dAt at h
  split at h
  · rename_i c hc; exact (List.getElem?_eq_some_iff.1 hc).1
  · simp at h
/-- induction along the digits -/
theorem digits_ind (l : List UInt8) (P : Nat → Prop) (hno : ∀ p, dAt l p = false → P p) (hyes : ∀ p, dAt l p = true → P (p + 1) → P p) : ∀ p, P p := by
  have : ∀ k p, l.length - p ≤ k → P p := by
    intro k
    induction k with
    | zero =>
      intro p hp
      apply hno
      cases h : dAt l p
      · rfl
      · have := dAt_lt h; omega
    | succ k ih =>
      intro p hp
      cases h : dAt l p
      · exact hno p h
      · exact hyes p h (ih (p + 1) (by have := dAt_lt h; omega))
  intro p
  exact this _ p (Nat.le_refl _)
theorem dEnd_stop (l : List UInt8) : ∀ p, dAt l (dEnd l p) = false :=
  digits_ind l _ (fun p h => by rw [dEnd_no h]; exact h) (fun p h ih => by rw [dEnd_yes h]; exact ih)

/-! ### what 'number' answers -/
def nX (l : List UInt8) (q : Nat) : Nat × Bool := (dEnd l q, decide (dEnd l q ≠ q))
def sgn (l : List UInt8) (q : Nat) : Nat := if l[q]? = some 43 ∨ l[q]? = some 45 then q + 1 else q
def nE (l : List UInt8) (p : Nat) : Nat × Bool := if l[p]? = some 101 ∨ l[p]? = some 69 then nX l (sgn l (p + 1)) else (p, true)
def nF (l : List UInt8) (p : Nat) : Nat × Bool :=
  if l[p]? = some 46 then (if dEnd l (p + 1) = p + 1 then (p + 1, false) else nE l (dEnd l (p + 1))) else nE l p
def nI (l : List UInt8) (p : Nat) : Nat × Bool :=
  if l[p]? = some 48 then nF l (p + 1) else if dAt l p = true then nF l (dEnd l p) else (p, false)
def nN (l : List UInt8) (p : Nat) : Nat × Bool := if l[p]? = some 45 then nI l (p + 1) else nI l p

/-! ### the automaton -/
def nxt (s : Nat) (c : UInt8) : Int :=
  match s with
  | 0 => if c = 45 then 1 else if c = 48 then 2 else if isD c = true then 3 else -1
  | 1 => if c = 48 then 2 else if isD c = true then 3 else -1
  | 2 => if c = 46 then 4 else if c = 101 ∨ c = 69 then 6 else -1
  | 3 => if isD c = true then 3 else if c = 46 then 4 else if c = 101 ∨ c = 69 then 6 else -1
  | 4 => if isD c = true then 5 else -1
  | 5 => if isD c = true then 5 else if c = 101 ∨ c = 69 then 6 else -1
  | 6 => if c = 43 ∨ c = 45 then 7 else if isD c = true then 8 else -1
  | 7 => if isD c = true then 8 else -1
  | 8 => if isD c = true then 8 else -1
  | _ => -1
def acc (s : Nat) : Bool := s == 2 || s == 3 || s == 5 || s == 8
/-- where the automaton stops, and in which state -/
def run : List UInt8 → Nat → Nat → Nat × Nat
  | [], s, p => (p, s)
  | c :: t, s, p => if nxt s c < 0 then (p, s) else run t (nxt s c).toNat (p + 1)
def R (l : List UInt8) (s p : Nat) : Nat × Nat := run (l.drop p) s p

theorem R_end {l : List UInt8} {s p : Nat} (h : l[p]? = none) : R l s p = (p, s) := by
  unfold R
  rw [List.drop_of_length_le (List.getElem?_eq_none_iff.1 h)]; rfl
theorem R_step {l : List UInt8} {s p : Nat} {c : UInt8} (h : l[p]? = some c) : R l s p = if nxt s c < 0 then (p, s) else R l (nxt s c).toNat (p + 1) := by
  have hp : p < l.length := (List.getElem?_eq_some_iff.1 h).1
  have hg : l[p] = c := (List.getElem?_eq_some_iff.1 h).2
  unfold R
  rw [List.drop_eq_getElem_cons hp, hg]; rfl
theorem R_stop {l : List UInt8} {s p : Nat} {c : UInt8} (h : l[p]? = some c) (hn : nxt s c = -1) : R l s p = (p, s) := by
  rw [R_step h, hn]; rfl
theorem R_go {l : List UInt8} {s p t : Nat} {c : UInt8} (h : l[p]? = some c) (hn : nxt s c = t) : R l s p = R l t (p + 1) := by
  rw [R_step h, hn, if_neg (by omega)]; rfl
def A (x : Nat × Nat) : Nat × Bool := (x.1, acc x.2)

theorem dAt_some {l : List UInt8} {p : Nat} {c : UInt8} (h : l[p]? = some c) : dAt l p = isD c := by unfold dAt; rw [h]
theorem dAt_none {l : List UInt8} {p : Nat} (h : l[p]? = none) : dAt l p = false := by unfold dAt; rw [h]

theorem A8 (l : List UInt8) : ∀ p, A (R l 8 p) = (dEnd l p, true) := by
  refine digits_ind l _ ?_ ?_
  · intro p h
    rw [dEnd_no h]
    cases hc : l[p]? with
    | none => rw [R_end hc]; rfl
    | some c => rw [dAt_some hc] at h; rw [R_stop hc (by simp [nxt, h])]; rfl
  · intro p h ih
    rw [dEnd_yes h]
    cases hc : l[p]? with
    | none => rw [dAt_none hc] at h; simp at h
    | some c => rw [dAt_some hc] at h; rw [R_go hc (t := 8) (by simp [nxt, h])]; exact ih
theorem nX_no {l : List UInt8} {q : Nat} (h : dAt l q = false) : nX l q = (q, false) := by unfold nX; rw [dEnd_no h]; simp
theorem nX_yes {l : List UInt8} {q : Nat} (h : dAt l q = true) : nX l q = (dEnd l (q + 1), true) := by
  unfold nX; rw [dEnd_yes h]
  have := dEnd_ge l (q + 1)
  simp; omega
theorem A7 (l : List UInt8) (q : Nat) : A (R l 7 q) = nX l q := by
  cases hc : l[q]? with
  | none => rw [R_end hc, nX_no (dAt_none hc)]; rfl
  | some c =>
    have hd := dAt_some hc
    cases h : isD c
    · rw [R_stop hc (by simp [nxt, h]), nX_no (by rw [hd, h])]; rfl
    · rw [R_go hc (t := 8) (by simp [nxt, h]), A8, nX_yes (by rw [hd, h])]
theorem isD_ne {c : UInt8} (h : isD c = true) : c ≠ 43 ∧ c ≠ 45 ∧ c ≠ 46 ∧ c ≠ 101 ∧ c ≠ 69 := by
  refine ⟨?_, ?_, ?_, ?_, ?_⟩ <;> (rintro rfl; revert h; decide)
theorem A6 (l : List UInt8) (q : Nat) : A (R l 6 q) = nX l (sgn l q) := by
  cases hc : l[q]? with
  | none => rw [R_end hc, sgn, if_neg (by simp [hc]), nX_no (dAt_none hc)]; rfl
  | some c =>
    have hd := dAt_some hc
    by_cases hs : c = 43 ∨ c = 45
    · rw [R_go hc (t := 7) (by simp [nxt, hs]), A7, sgn, if_pos (by rw [hc]; simpa using hs)]
    · rw [sgn, if_neg (by rw [hc]; simpa using hs)]
      cases h : isD c
      · rw [R_stop hc (by simp [nxt, h, hs]), nX_no (by rw [hd, h])]; rfl
      · rw [R_go hc (t := 8) (by simp [nxt, h, hs]), A8, nX_yes (by rw [hd, h])]
theorem nE_none {l : List UInt8} {p : Nat} (h : l[p]? = none) : nE l p = (p, true) := by unfold nE; rw [if_neg (by simp [h])]
theorem nE_yes {l : List UInt8} {p : Nat} {c : UInt8} (h : l[p]? = some c) (hc : c = 101 ∨ c = 69) : nE l p = nX l (sgn l (p + 1)) := by unfold nE; rw [if_pos (by rw [h]; simpa using hc)]
theorem nE_no {l : List UInt8} {p : Nat} {c : UInt8} (h : l[p]? = some c) (hc : ¬ (c = 101 ∨ c = 69)) : nE l p = (p, true) := by unfold nE; rw [if_neg (by rw [h]; simpa using hc)]
theorem A5 (l : List UInt8) : ∀ p, A (R l 5 p) = nE l (dEnd l p) := by
  refine digits_ind l _ ?_ ?_
  · intro p h
    rw [dEnd_no h]
    cases hc : l[p]? with
    | none => rw [R_end hc, nE_none hc]; rfl
    | some c =>
      rw [dAt_some hc] at h
      by_cases he : c = 101 ∨ c = 69
      · rw [R_go hc (t := 6) (by simp [nxt, h, he]), A6, nE_yes hc he]
      · rw [R_stop hc (by simp [nxt, h, he]), nE_no hc he]; rfl
  · intro p h ih
    rw [dEnd_yes h]
    cases hc : l[p]? with
    | none => rw [dAt_none hc] at h; simp at h
    | some c => rw [dAt_some hc] at h; rw [R_go hc (t := 5) (by simp [nxt, h])]; exact ih
theorem A4 (l : List UInt8) (q : Nat) : A (R l 4 q) = if dEnd l q = q then (q, false) else nE l (dEnd l q) := by
  cases hc : l[q]? with
  | none => rw [R_end hc, if_pos (dEnd_no (dAt_none hc))]; rfl
  | some c =>
    have hd := dAt_some hc
    cases h : isD c
    · rw [R_stop hc (by simp [nxt, h]), if_pos (dEnd_no (by rw [hd, h]))]; rfl
    · have hy : dAt l q = true := by rw [hd, h]
      rw [R_go hc (t := 5) (by simp [nxt, h]), A5, dEnd_yes hy, if_neg (by have := dEnd_ge l (q + 1); omega)]
theorem nF_none {l : List UInt8} {p : Nat} (h : l[p]? = none) : nF l p = (p, true) := by unfold nF; rw [if_neg (by simp [h]), nE_none h]
theorem nF_dot {l : List UInt8} {p : Nat} (h : l[p]? = some 46) : nF l p = if dEnd l (p + 1) = p + 1 then (p + 1, false) else nE l (dEnd l (p + 1)) := by unfold nF; rw [if_pos h]
theorem nF_no {l : List UInt8} {p : Nat} {c : UInt8} (h : l[p]? = some c) (hc : c ≠ 46) : nF l p = nE l p := by unfold nF; rw [if_neg (by rw [h]; simpa using hc)]
theorem e_ne_dot {c : UInt8} (h : c = 101 ∨ c = 69) : c ≠ 46 := by rcases h with rfl | rfl <;> decide
theorem A2 (l : List UInt8) (p : Nat) : A (R l 2 p) = nF l p := by
  cases hc : l[p]? with
  | none => rw [R_end hc, nF_none hc]; rfl
  | some c =>
    by_cases hd : c = 46
    · subst hd
      rw [R_go hc (t := 4) (by simp [nxt]), A4, nF_dot hc]
    · rw [nF_no hc hd]
      by_cases he : c = 101 ∨ c = 69
      · rw [R_go hc (t := 6) (by simp [nxt, hd, he]), A6, nE_yes hc he]
      · rw [R_stop hc (by simp [nxt, hd, he]), nE_no hc he]; rfl
theorem A3 (l : List UInt8) : ∀ p, A (R l 3 p) = nF l (dEnd l p) := by
  refine digits_ind l _ ?_ ?_
  · intro p h
    rw [dEnd_no h]
    cases hc : l[p]? with
    | none => rw [R_end hc, nF_none hc]; rfl
    | some c =>
      rw [dAt_some hc] at h
      by_cases hd : c = 46
      · subst hd
        rw [R_go hc (t := 4) (by simp [nxt, h]), A4, nF_dot hc]
      · rw [nF_no hc hd]
        by_cases he : c = 101 ∨ c = 69
        · rw [R_go hc (t := 6) (by simp [nxt, h, hd, he]), A6, nE_yes hc he]
        · rw [R_stop hc (by simp [nxt, h, hd, he]), nE_no hc he]; rfl
  · intro p h ih
    rw [dEnd_yes h]
    cases hc : l[p]? with
    | none => rw [dAt_none hc] at h; simp at h
    | some c => rw [dAt_some hc] at h; rw [R_go hc (t := 3) (by simp [nxt, h])]; exact ih
theorem nI_none {l : List UInt8} {p : Nat} (h : l[p]? = none) : nI l p = (p, false) := by unfold nI; rw [if_neg (by simp [h]), if_neg (by simp [dAt_none h])]
theorem nI_zero {l : List UInt8} {p : Nat} (h : l[p]? = some 48) : nI l p = nF l (p + 1) := by unfold nI; rw [if_pos h]
theorem nI_dig {l : List UInt8} {p : Nat} {c : UInt8} (h : l[p]? = some c) (hc : c ≠ 48) (hd : isD c = true) : nI l p = nF l (dEnd l p) := by
  unfold nI; rw [if_neg (by rw [h]; simpa using hc), if_pos (by rw [dAt_some h]; exact hd)]
theorem nI_bad {l : List UInt8} {p : Nat} {c : UInt8} (h : l[p]? = some c) (hd : isD c = false) : nI l p = (p, false) := by
  unfold nI
  rw [if_neg (by rw [h]; simp; rintro rfl; revert hd; decide), if_neg (by rw [dAt_some h, hd]; simp)]
theorem A1 (l : List UInt8) (p : Nat) : A (R l 1 p) = nI l p := by
  cases hc : l[p]? with
  | none => rw [R_end hc, nI_none hc]; rfl
  | some c =>
    by_cases hz : c = 48
    · subst hz
      rw [R_go hc (t := 2) (by simp [nxt]), A2, nI_zero hc]
    · cases h : isD c
      · rw [R_stop hc (by simp [nxt, hz, h]), nI_bad hc h]; rfl
      · rw [R_go hc (t := 3) (by simp [nxt, hz, h]), A3, nI_dig hc hz h, dEnd_yes (p := p) (by rw [dAt_some hc]; exact h)]
theorem nN_neg {l : List UInt8} {p : Nat} (h : l[p]? = some 45) : nN l p = nI l (p + 1) := by unfold nN; rw [if_pos h]
theorem nN_pos {l : List UInt8} {p : Nat} (h : l[p]? ≠ some 45) : nN l p = nI l p := by unfold nN; rw [if_neg h]
/-- THE LAW: the automaton answers what 'number' answers -/
theorem A0 (l : List UInt8) (p : Nat) : A (R l 0 p) = nN l p := by
  cases hc : l[p]? with
  | none => rw [R_end hc, nN_pos (by simp [hc]), nI_none hc]; rfl
  | some c =>
    by_cases hm : c = 45
    · subst hm
      rw [R_go hc (t := 1) (by simp [nxt]), A1, nN_neg hc]
    · rw [nN_pos (by rw [hc]; simpa using hm)]
      by_cases hz : c = 48
      · subst hz
        rw [R_go hc (t := 2) (by simp [nxt]), A2, nI_zero hc]
      · cases h : isD c
        · rw [R_stop hc (by simp [nxt, hm, hz, h]), nI_bad hc h]; rfl
        · rw [R_go hc (t := 3) (by simp [nxt, hm, hz, h]), A3, nI_dig hc hz h, dEnd_yes (p := p) (by rw [dAt_some hc]; exact h)]
end Go.Proofs.Qxb6605400a.Num
