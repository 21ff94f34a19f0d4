/-
  cloneFields, cloneKeepNil: a fresh copy of the list.
-/
import Derived.Test.Qxb6605335aSame
import Derived.Lib.SliceRun
namespace Go.Proofs.Qxb6605335a
open Go.RowKit
set_option linter.unusedVariables false

theorem info9 : (Try.prog.info? 9).map (fun i => (i.zero, i.size, i.bytes)) = some (some (.string ByteArray.empty), 1, 16) := by kernel_rfl

theorem Strs.cell {w wr : World} {a : Option Addr} {n : Nat} {ss : List ByteArray} {b off : Nat} (ha : a = some ⟨b, off, none⟩) (h : ∀ i s, ss[i]? = some s → w.cell? ⟨b, off + i, none⟩ = some (.string s))
    (hb : Below w.heap.size w wr) {k : Nat} {s : ByteArray} (hs : ss[k]? = some s) : wr.cell? ⟨b, off + k, none⟩ = some (.string s) := by
  have h1 := h k s hs
  have hlt := block_lt_of_cell h1
  exact (hb.cell (p := ⟨b, off + k, none⟩) hlt).trans h1
theorem Strs.below {w wr : World} {a : Option Addr} {n : Nat} {ss : List ByteArray} (h : Strs w a n ss) (hb : Below w.heap.size w wr) : Strs wr a n ss := by
  refine ⟨h.1, ?_⟩
  rcases h.2 with h0 | ⟨b, off, ha, hc⟩
  · exact .inl h0
  · exact .inr ⟨b, off, ha, fun i s hs => Strs.cell (n := n) ha hc hb hs⟩
theorem take_set_snoc {α : Type} (xs : List α) (k : Nat) (u : α) (h : k < xs.length) : (xs.set k u).take (k + 1) = xs.take k ++ [u] := by
  rw [List.take_succ_eq_append_getElem (by simpa using h)]
  rw [List.take_set, List.getElem_set_self, List.set_eq_of_length_le (by simp; omega)]

/-- what the copy's loop keeps -/
def Cop (w wr : World) (n : Nat) (ss : List ByteArray) (k : Nat) : Prop :=
  Below w.heap.size w wr ∧ ∃ xs, wr.ownsRow w.heap.size 9 1 (.slice (some ⟨w.heap.size, 0, none⟩) n n) n xs ∧ xs.take k = (ss.take k).map Value.string

theorem Cop.cell {w wr : World} {n : Nat} {ss : List ByteArray} {k : Nat} (h : Cop w wr n ss k) (hk : k < n) : ∃ u, wr.cell? ⟨w.heap.size, k, none⟩ = some u := by
  obtain ⟨_, xs, ho, _⟩ := h
  have hl : xs.length = n := by have := ho.1; simpa using this
  exact ⟨_, (ho.cellAt k (by omega)).trans (List.getElem?_eq_getElem (by omega))⟩
theorem Cop.free {w wr : World} {n : Nat} {ss : List ByteArray} {k : Nat} (h : Cop w wr n ss k) : wr.frozen? ⟨w.heap.size, k, none⟩ = false := by
  obtain ⟨_, xs, ho, _⟩ := h
  exact ho.frozenAt k
theorem Cop.store {w wr : World} {n : Nat} {ss : List ByteArray} {k : Nat} (h : Cop w wr n ss k) (hk : k < n) {s : ByteArray} (hs : ss[k]? = some s) : Cop w (wr.setCell ⟨w.heap.size, k, none⟩ (.string s)) n ss (k + 1) := by
  obtain ⟨h1, xs, ho, ht⟩ := h
  have hl : xs.length = n := by have := ho.1; simpa using this
  refine ⟨h1.setCell (Nat.le_refl _) _, _, (ho.stored k (.string s)).1, ?_⟩
  rw [take_set_snoc xs k _ (by omega), ht, List.take_add_one, hs]
  simp
theorem Cop.fin {w wr : World} {n : Nat} {ss : List ByteArray} (h : Cop w wr n ss n) (hs : ss.length = n) :
    wr.ownsRow w.heap.size 9 1 (.slice (some ⟨w.heap.size, 0, none⟩) n n) n (ss.map Value.string) ∧ Below w.heap.size w wr := by
  obtain ⟨h1, xs, ho, ht⟩ := h
  have hl : xs.length = n := by have := ho.1; simpa using this
  rw [List.take_of_length_le (by omega), List.take_of_length_le (by omega)] at ht
  rw [← ht]
  exact ⟨ho, h1⟩

set_option maxHeartbeats 1000000 in
theorem clone_any (a : Option Addr) (n c : Nat) (ss : List ByteArray) (w : World) (hn : n ≤ 1048576) (hs : Strs w a n ss) :
    Calls Try.prog 23 #[.slice a n c] w fun e w' => e = .returned (.slice (some ⟨w.heap.size, 0, none⟩) n n) ∧ w'.ownsRow w.heap.size 9 1 (.slice (some ⟨w.heap.size, 0, none⟩) n n) n (ss.map Value.string) ∧ Below w.heap.size w w' := by
  obtain ⟨i0, hi, hz0, hz1, hz2⟩ := info_parts info9
  have hni : (n : Int) ≤ 1048576 := by omega
  have HS : Hid (Strs w a n ss) := hs
  clear hs
  go_enter Try.func23, Try.ntmps23
  go_wp2_with (at_make; refine wpList_make_full _ rfl (.tmp 6) (.tmp 6) 31 rfl w.heap.size 9 i0 (.string ByteArray.empty) 1 Try.underlying31 hi hz0 hz1 .i64 .i64 _ _ n rfl rfl (by omega) (by omega) (by rw [hz2]; omega) (by unfold maxLen; omega) (Nat.le_refl _) ?_; intro w1 hown hgrow)
  have HC : Cop w w1 n ss 0 := ⟨(Below.refl _ _).grown hgrow (Nat.le_refl _) (by simp), _, hown, by simp⟩
  clear hown hgrow
  go_loopw [4] (fun i wr => ∃ k : Nat, k ≤ n ∧ i = .int .i64 k ∧ Cop w wr n ss k) (fun i _ => n - (intOf i).toNat)
  case atStart => exact ⟨0, by omega, rfl, HC⟩
  case round =>
    obtain ⟨k, hk, rfl, HK⟩ := hrel
    by_cases hlt : k < n
    · have hS := HS.out
      obtain ⟨s, es⟩ : ∃ s, ss[k]? = some s := ⟨_, List.getElem?_eq_getElem (by have := hS.1; omega)⟩
      obtain ⟨b, off, rfl, hc⟩ := hS.2.resolve_left (by omega)
      have hcell := Strs.cell (n := n) rfl hc HK.1 es
      obtain ⟨u, hu⟩ := HK.cell hlt
      have hfr := HK.free
      have ES : Hid (ss[k]? = some s) := es
      clear es hc hS HC
      go_wp2
      go_roundw
      case rel => exact ⟨k + 1, by omega, by go_num, HK.store hlt ES.out⟩
      case measure => simp [intOf]; omega
    · go_wp2
      go_ret
      obtain rfl : k = n := by omega
      exact ⟨rfl, HK.fin HS.out.1⟩

set_option maxHeartbeats 1000000 in
theorem cloneKeep_nil (c : Nat) (w : World) :
    Calls Try.prog 18 #[.slice none 0 c] w fun e w' => e = .returned (.slice none 0 0) ∧ w' = w := by
  have hq := fun wx => Lib.run_eql_slice_nil (P := Try.prog) wx 31 9 none 0 c 0 0 Try.underlying31
  go_enter Try.func18, Try.ntmps18
  go_wp2
  go_ret
  exact ⟨rfl, rfl⟩

set_option maxHeartbeats 1000000 in
theorem cloneKeep_some (ad : Addr) (n c : Nat) (ss : List ByteArray) (w : World) (hn : n ≤ 1048576) (hs : Strs w (some ad) n ss) :
    Calls Try.prog 18 #[.slice (some ad) n c] w fun e w' => e = .returned (.slice (some ⟨w.heap.size, 0, none⟩) n n) ∧ w'.ownsRow w.heap.size 9 1 (.slice (some ⟨w.heap.size, 0, none⟩) n n) n (ss.map Value.string) ∧ Below w.heap.size w w' := by
  have hq := fun wx => Lib.run_eql_slice_nil (P := Try.prog) wx 31 9 (some ad) n c 0 0 Try.underlying31
  obtain ⟨i0, hi, hz0, hz1, hz2⟩ := info_parts info9
  have hni : (n : Int) ≤ 1048576 := by omega
  have HS : Hid (Strs w (some ad) n ss) := hs
  clear hs
  go_enter Try.func18, Try.ntmps18
  go_wp2_with (at_make; refine wpList_make_full _ rfl _ _ 31 rfl w.heap.size 9 i0 (.string ByteArray.empty) 1 Try.underlying31 hi hz0 hz1 .i64 .i64 _ _ n rfl rfl (by omega) (by omega) (by rw [hz2]; omega) (by unfold maxLen; omega) (Nat.le_refl _) ?_; intro w1 hown hgrow)
  have HC : Cop w w1 n ss 0 := ⟨(Below.refl _ _).grown hgrow (Nat.le_refl _) (by simp), _, hown, by simp⟩
  clear hown hgrow
  go_loopw [4] (fun i wr => ∃ k : Nat, k ≤ n ∧ i = .int .i64 k ∧ Cop w wr n ss k) (fun i _ => n - (intOf i).toNat)
  case atStart => exact ⟨0, by omega, rfl, HC⟩
  case round =>
    obtain ⟨k, hk, rfl, HK⟩ := hrel
    by_cases hlt : k < n
    · have hS := HS.out
      obtain ⟨s, es⟩ : ∃ s, ss[k]? = some s := ⟨_, List.getElem?_eq_getElem (by have := hS.1; omega)⟩
      obtain ⟨b, off, hab, hc⟩ := hS.2.resolve_left (by omega)
      obtain rfl : ad = ⟨b, off, none⟩ := by simpa using hab
      have hcell := Strs.cell (n := n) rfl hc HK.1 es
      obtain ⟨u, hu⟩ := HK.cell hlt
      have hfr := HK.free
      have ES : Hid (ss[k]? = some s) := es
      clear es hc hS HC hab
      go_wp2
      go_roundw
      case rel => exact ⟨k + 1, by omega, by go_num, HK.store hlt ES.out⟩
      case measure => simp [intOf]; omega
    · go_wp2
      go_ret
      obtain rfl : k = n := by omega
      exact ⟨rfl, HK.fin HS.out.1⟩

/-- cloneKeepNil: a copy in new memory; nil stays nil -/
theorem cloneKeep_any (a : Option Addr) (n c : Nat) (ss : List ByteArray) (w : World) (hn : n ≤ 1048576) (h0 : a = none → n = 0) (hs : Strs w a n ss) :
    Calls Try.prog 18 #[.slice a n c] w fun e w' => ∃ v', e = .returned v' ∧ w'.ownsRow w.heap.size 9 1 v' n (ss.map Value.string) ∧ Below w.heap.size w w' := by
  cases a with
  | none =>
    obtain rfl := h0 rfl
    obtain rfl : ss = [] := List.length_eq_zero_iff.1 hs.1
    refine (cloneKeep_nil c w).mono ?_
    rintro e w' ⟨rfl, rfl⟩
    exact ⟨_, rfl, World.ownsRow_nil _ _ _ _, Below.refl _ _⟩
  | some ad =>
    refine (cloneKeep_some ad n c ss w hn hs).mono ?_
    rintro e w' ⟨rfl, h1, h2⟩
    exact ⟨_, rfl, h1, h2⟩

/-- an owned row of strings, as a slice of strings -/
theorem own_strs {w : World} {base : Nat} {v : Value} {n : Nat} {ss : List ByteArray} (h : w.ownsRow base 9 1 v n (ss.map Value.string)) :
    ∃ a cap, v = .slice a n cap ∧ Strs w a n ss ∧ (a = none → n = 0) := by
  have hl : ss.length = n := by have := h.1; simpa using this
  rcases h.2 with ⟨rfl, rfl⟩ | ⟨g, cap, cur, rfl, r⟩
  · exact ⟨none, 0, rfl, ⟨hl, .inl rfl⟩, fun _ => rfl⟩
  · refine ⟨_, cap, rfl, ⟨hl, ?_⟩, by simp⟩
    rcases Nat.eq_zero_or_pos n with h0 | h0
    · exact .inl h0
    · refine .inr ⟨g, 0, rfl, fun i s hs => ?_⟩
      have := h.cells rfl i (.string s) (by simp [hs])
      rwa [Addr.add_lit] at this

/-- what is owned stays owned in a later world -/
theorem own_below {w w' : World} {base : Nat} {e : TypeId} {v : Value} {n : Nat} {xs : List Value} (h : w.ownsRow base e 1 v n xs) (hb : Below w.heap.size w w') : w'.ownsRow base e 1 v n xs := by
  refine ⟨h.1, ?_⟩
  rcases h.2 with hn | ⟨g, cap, cur, rfl, hg, hh, r⟩
  · exact .inl hn
  · exact .inr ⟨g, cap, cur, rfl, hg, (hb.block g (lt_of_block hh)).trans hh, r⟩
theorem own_drewN {w : World} {base : Nat} {e : TypeId} {v : Value} {n : Nat} {xs : List Value} (h : w.ownsRow base e 1 v n xs) (j : Nat) : (w.drewN j).ownsRow base e 1 v n xs := h
theorem Strs.drewN {w : World} {a : Option Addr} {n : Nat} {ss : List ByteArray} (h : Strs w a n ss) (j : Nat) : Strs (w.drewN j) a n ss := h
end Go.Proofs.Qxb6605335a
