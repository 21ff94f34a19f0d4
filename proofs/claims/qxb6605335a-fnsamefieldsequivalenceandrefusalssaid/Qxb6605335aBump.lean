/-
  bumpFirstByte gives another string.
-/
import Derived.Test.Qxb6605335aClone
import Derived.Laws.IdiomStrings
namespace Go.Proofs.Qxb6605335a
open Go.RowKit
set_option linter.unusedVariables false

/-- the byte as a value -/
abbrev bval (c : UInt8) : Value := .int .u8 c.toNat
theorem info5' : (Try.prog.info? 5).map (fun i => (i.zero, i.size, i.bytes)) = some (some (.int .u8 0), 1, 1) := by kernel_rfl

/-- what the loop keeps -/
def Byt (w wr : World) (n : Nat) (l : List UInt8) (k : Nat) : Prop :=
  Below w.heap.size w wr ∧ ∃ xs, wr.ownsRow w.heap.size 5 1 (.slice (some ⟨w.heap.size, 0, none⟩) n n) n xs ∧ xs.take k = (l.take k).map bval
theorem Byt.cell {w wr : World} {n : Nat} {l : List UInt8} {k : Nat} (h : Byt w wr n l k) (hk : k < n) : ∃ u, wr.cell? ⟨w.heap.size, k, none⟩ = some u := by
  obtain ⟨_, xs, ho, _⟩ := h
  have hl : xs.length = n := by have := ho.1; simpa using this
  exact ⟨_, (ho.cellAt k (by omega)).trans (List.getElem?_eq_getElem (by omega))⟩
theorem Byt.free {w wr : World} {n : Nat} {l : List UInt8} {k : Nat} (h : Byt w wr n l k) (j : Nat) : wr.frozen? ⟨w.heap.size, j, none⟩ = false := by
  obtain ⟨_, xs, ho, _⟩ := h
  exact ho.frozenAt j
theorem Byt.store {w wr : World} {n : Nat} {l : List UInt8} {k : Nat} (h : Byt w wr n l k) (hk : k < n) {c : UInt8} (hs : l[k]? = some c) : Byt w (wr.setCell ⟨w.heap.size, k, none⟩ (bval c)) n l (k + 1) := by
  obtain ⟨h1, xs, ho, ht⟩ := h
  have hl : xs.length = n := by have := ho.1; simpa using this
  refine ⟨h1.setCell (Nat.le_refl _) _, _, (ho.stored k (bval c)).1, ?_⟩
  rw [take_set_snoc xs k _ (by omega), ht, List.take_add_one, hs]
  simp
theorem Byt.fin {w wr : World} {n : Nat} {l : List UInt8} (h : Byt w wr n l n) (hs : l.length = n) :
    wr.ownsRow w.heap.size 5 1 (.slice (some ⟨w.heap.size, 0, none⟩) n n) n (l.map bval) ∧ Below w.heap.size w wr := by
  obtain ⟨h1, xs, ho, ht⟩ := h
  have hl : xs.length = n := by have := ho.1; simpa using this
  rw [List.take_of_length_le (by omega), List.take_of_length_le (by omega)] at ht
  rw [← ht]
  exact ⟨ho, h1⟩
theorem conv_row {w : World} {base g n cap : Nat} {l : List UInt8} (h : w.ownsRow base 5 1 (.slice (some ⟨g, 0, none⟩) n cap) n (l.map bval)) :
    (convert 26 9 (.slice (some ⟨g, 0, none⟩) n cap)).run Try.prog w = .ok (.string ⟨l.toArray⟩) w := by
  have hl : l.length = n := by have := h.1; simpa using this
  rw [← hl] at h ⊢
  refine run_convert_bytes_back w 26 9 5 _ cap l Try.underlying26 Try.underlying5 Try.underlying9 ?_
  intro j hj
  exact h.cells rfl j _ (by simp [List.getElem?_eq_getElem hj])
theorem list_len (p : ByteArray) : p.data.toList.length = p.size := by rw [Array.length_toList]; rfl
theorem list_get (p : ByteArray) (k : Nat) (h : k < p.size) : p.data.toList[k]? = some p[k] := by
  rw [List.getElem?_eq_getElem (by rw [list_len]; exact h)]; rfl

/-- s with its first byte raised by one -/
def bumped (s : ByteArray) (h : 0 < s.size) : ByteArray := ⟨(s.data.toList.set 0 (s[0] + 1)).toArray⟩
theorem succ_toNat (c : UInt8) : (c + 1).toNat = (c.toNat + 1) % 256 := by simp [UInt8.toNat_add]
theorem bumped_ne (s : ByteArray) (h : 0 < s.size) : bumped s h ≠ s := by
  intro e
  have e1 : (bumped s h).data.toList[0]? = some (s[0] + 1) := by
    unfold bumped
    simp only [List.getElem?_set_self' ]
    rw [list_get s 0 h]; rfl
  rw [e, list_get s 0 h] at e1
  simp at e1
theorem bumped_size (s : ByteArray) (h : 0 < s.size) : (bumped s h).size = s.size := by
  rw [← list_len, ← list_len]; simp [bumped]
theorem bumped_conv {w wr : World} (s : ByteArray) (h : 0 < s.size) (ho : wr.ownsRow w.heap.size 5 1 (.slice (some ⟨w.heap.size, 0, none⟩) s.size s.size) s.size (s.data.toList.map bval)) :
    (convert 26 9 (.slice (some ⟨w.heap.size, 0, none⟩) s.size s.size)).run Try.prog (wr.setCell ⟨w.heap.size, 0, none⟩ (.int .u8 (((s[0].toNat : Int) + 1) % 256))) =
      .ok (.string (bumped s h)) (wr.setCell ⟨w.heap.size, 0, none⟩ (.int .u8 (((s[0].toNat : Int) + 1) % 256))) := by
  have e : (((s[0].toNat : Int) + (1 : Int)) % (256 : Int)) = ((s[0] + 1).toNat : Int) := by rw [succ_toNat]; omega
  rw [e]
  have h1 := (ho.stored 0 (bval (s[0] + 1))).1
  rw [← List.map_set] at h1
  exact conv_row h1

set_option maxHeartbeats 1000000 in
theorem bump_any (s : ByteArray) (w : World) (h0 : 0 < s.size) (h1 : (s.size : Int) ≤ 1048576) :
    Calls Try.prog 24 #[.string s] w fun e w' => ∃ t : ByteArray, e = .returned (.string t) ∧ t ≠ s ∧ t.size = s.size ∧ Below w.heap.size w w' := by
  obtain ⟨i0, hi, hz0, hz1, hz2⟩ := info_parts info5'
  go_enter Try.func24, Try.ntmps24
  go_wp2_with (at_make; refine wpList_make_full _ rfl (.tmp 6) (.tmp 6) 26 rfl w.heap.size 5 i0 (.int .u8 0) 1 Try.underlying26 hi hz0 hz1 .i64 .i64 _ _ s.size rfl rfl (by omega) (by omega) (by rw [hz2]; omega) (by unfold maxLen; omega) (Nat.le_refl _) ?_; intro w1 hown hgrow)
  have HC : Byt w w1 s.size s.data.toList 0 := ⟨(Below.refl _ _).grown hgrow (Nat.le_refl _) (by simp), _, hown, by simp⟩
  clear hown hgrow
  go_loopw [4] (fun i wr => ∃ k : Nat, k ≤ s.size ∧ i = .int .i64 k ∧ Byt w wr s.size s.data.toList k) (fun i _ => s.size - (intOf i).toNat)
  case atStart => exact ⟨0, by omega, rfl, HC⟩
  case round =>
    obtain ⟨k, hk, rfl, HK⟩ := hrel
    by_cases hlt : k < s.size
    · obtain ⟨u, hu⟩ := HK.cell hlt
      have hfr := HK.free k
      clear HC
      go_wp2
      go_roundw
      case rel => exact ⟨k + 1, by omega, by go_num, HK.store hlt (list_get s k hlt)⟩
      case measure => simp [intOf]; omega
    · obtain rfl : k = s.size := by omega
      obtain ⟨ho, hb⟩ := HK.fin (list_len s)
      have hc0 : wr.cell? ⟨w.heap.size, 0, none⟩ = some (bval s[0]) := by
        rw [ho.cellAt 0 (by omega), List.getElem?_map, list_get s 0 h0]; rfl
      have hf0 := ho.frozenAt 0
      have hconv := bumped_conv (w := w) s h0 ho
      obtain ⟨t, ht⟩ : ∃ t, t = bumped s h0 := ⟨_, rfl⟩
      rw [← ht] at hconv
      have HT : Hid (t = bumped s h0) := ht
      clear HC HK ht
      go_wp2
      go_ret
      rw [HT.out]
      exact ⟨_, rfl, bumped_ne s h0, bumped_size s h0, hb.setCell (Nat.le_refl _) _⟩
end Go.Proofs.Qxb6605335a
