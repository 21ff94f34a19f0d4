/-
  The length-prefixed encoding of a list of strings tells the list: no Go in sight.
-/
import Derived.Test.Qxb6605335aDec
namespace Go.Proofs.Qxb6605335a.Dig
open Go.RowKit

/-- every field as its decimal length, a colon, and its bytes -/
def enc : List ByteArray → List UInt8
  | [] => []
  | s :: t => dec s.size ++ ([58] ++ (s.data.toList ++ enc t))

theorem enc_append (l m : List ByteArray) : enc (l ++ m) = enc l ++ enc m := by
  induction l with
  | nil => rfl
  | cons s t ih => simp [enc, ih]
theorem enc_take (ss : List ByteArray) (k : Nat) (s : ByteArray) (h : ss[k]? = some s) : enc (ss.take (k + 1)) = enc (ss.take k) ++ dec s.size ++ [58] ++ s.data.toList := by
  rw [List.take_add_one, h, enc_append]; simp [enc]

theorem isD_colon : isD 58 = false := by decide
/-- digits up to a colon: there is but one way to read them -/
theorem colon_inj (a b r s : List UInt8) (ha : allD a = true) (hb : allD b = true) (h : a ++ ([58] ++ r) = b ++ ([58] ++ s)) : a = b ∧ r = s := by
  induction a generalizing b with
  | nil =>
    cases b with
    | nil => simpa using h
    | cons c t =>
      simp at h
      rw [allD_cons, ← h.1, isD_colon] at hb
      simp at hb
  | cons c t ih =>
    cases b with
    | nil =>
      simp at h
      rw [allD_cons, h.1, isD_colon] at ha
      simp at ha
    | cons d u =>
      rw [allD_cons, Bool.and_eq_true] at ha hb
      simp only [List.cons_append, List.cons.injEq] at h
      obtain ⟨h1, h2⟩ := ih u ha.2 hb.2 h.2
      exact ⟨by rw [h.1, h1], h2⟩

theorem str_ext {a b : ByteArray} (h : a.data.toList = b.data.toList) : a = b := by
  cases a; cases b; simp at h; rw [h]
theorem data_len (p : ByteArray) : p.data.toList.length = p.size := by rw [Array.length_toList]; rfl

theorem enc_inj (ss ts : List ByteArray) (hs : ∀ s ∈ ss, s.size ≤ 1048576) (ht : ∀ s ∈ ts, s.size ≤ 1048576) (h : enc ss = enc ts) : ss = ts := by
  induction ss generalizing ts with
  | nil =>
    cases ts with
    | nil => rfl
    | cons t u => simp [enc] at h
  | cons s u ih =>
    cases ts with
    | nil => simp [enc] at h
    | cons t v =>
      rw [enc, enc] at h
      obtain ⟨h1, h2⟩ := colon_inj _ _ _ _ (dec_allD _) (dec_allD _) h
      have b1 := hs s (by simp)
      have b2 := ht t (by simp)
      have hz := dec_inj s.size t.size (by omega) (by omega) h1
      obtain ⟨h3, h4⟩ := List.append_inj h2 (by rw [data_len, data_len]; exact hz)
      rw [str_ext h3, ih v (fun x hx => hs x (by simp [hx])) (fun x hx => ht x (by simp [hx])) h4]
theorem enc_iff (ss ts : List ByteArray) (hs : ∀ s ∈ ss, s.size ≤ 1048576) (ht : ∀ s ∈ ts, s.size ≤ 1048576) : decide (enc ss = enc ts) = decide (ss = ts) := by
  by_cases h : ss = ts
  · subst h; simp
  · rw [decide_eq_false h, decide_eq_false]
    exact fun e => h (enc_inj ss ts hs ht e)
end Go.Proofs.Qxb6605335a.Dig
