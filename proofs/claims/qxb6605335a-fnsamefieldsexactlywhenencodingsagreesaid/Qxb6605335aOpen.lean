/-
  A slice of strings that came in, opened for the walks.
-/
import Derived.Test.Qxb6605335aSame
import Derived.ProofKit
import Derived.OpenShut
import Derived.SliceStrings
namespace Go.Proofs.Qxb6605335a
open Go.ChangeShapes Go.WideShapes Go.ChangeAt Go.RowKit

theorem open_strs {H : Type} {enc : TypeId × Value → H} {W : World} {a : Option Addr} {len cap : Nat} {d : DataW H} {p : List MemPlace}
    (h : DataW.Trod enc Try.prog W 0 (fun _ => true) true 31 (.slice a len cap) d p) : ∃ ss, Strs W a len ss ∧ len ≤ maxLen ∧ (a = none → len = 0) := by
  obtain ⟨fuel, hf⟩ := h
  rcases open_strings Try.underlying31 Try.underlying9 (by kernel_rfl) hf with ⟨hcs, _⟩ | ⟨x, l, c, ss, hcs, _, hl, hm, hz, _, hcell, _⟩
  · simp [Value.cells] at hcs
    obtain ⟨rfl, rfl, rfl⟩ := hcs
    exact ⟨[], ⟨rfl, .inl rfl⟩, Nat.zero_le _, fun _ => rfl⟩
  · simp [Value.cells] at hcs
    obtain ⟨rfl, rfl, rfl⟩ := hcs
    have hz' : ss.length = cap := by simpa using hz
    refine ⟨ss.take len, ⟨by simp; omega, ?_⟩, by omega, by simp⟩
    rcases Nat.eq_zero_or_pos len with h0 | h0
    · exact .inl h0
    · right
      obtain ⟨b, off, spot⟩ := x
      have hspot : spot = none := by simpa [Addr.add] using World.cell?_spot (hcell 0 (by omega))
      subst hspot
      refine ⟨b, off, rfl, fun i s hs => ?_⟩
      have hi : i < ss.length := by
        have := (List.getElem?_eq_some_iff.1 hs).1
        simp at this; omega
      have h1 := hcell i hi
      rw [add_plain] at h1
      rw [h1]
      have hs' : ss[i]? = some s := by
        rw [List.getElem?_take] at hs
        split at hs
        · exact hs
        · simp at hs
      simp [List.getD, hs']
end Go.Proofs.Qxb6605335a
