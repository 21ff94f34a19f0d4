/-
  jsb1Clone: a fresh copy of the bytes; owned rows of bytes.
-/
import Derived.Test.Qxb6605400aNumber
import Derived.Lib.SliceRun
import Derived.OpenShut
namespace Go.Proofs.Qxb6605400a
open Go.RowKit
set_option linter.unusedVariables false

theorem info5 : (Try.prog.info? 5).map (fun i => (i.zero, i.size, i.bytes)) = some (some (.int .u8 0), 1, 1) := by kernel_rfl

theorem Byts.cell {w wr : World} {a : Option Addr} {n : Nat} {l : List UInt8} {b off : Nat} (ha : a = some ⟨b, off, none⟩) (h : ∀ i c, l[i]? = some c → w.cell? ⟨b, off + i, none⟩ = some (bv c))
    (hb : Below w.heap.size w wr) {k : Nat} {c : UInt8} (hs : l[k]? = some c) : wr.cell? ⟨b, off + k, none⟩ = some (bv c) := by
  have h1 := h k c hs
  exact (hb.cell (p := ⟨b, off + k, none⟩) (block_lt_of_cell h1)).trans h1
theorem Byts.below {w wr : World} {a : Option Addr} {n : Nat} {l : List UInt8} (h : Byts w a n l) (hb : Below w.heap.size w wr) : Byts wr a n l := by
  refine ⟨h.1, ?_⟩
  rcases h.2 with h0 | ⟨b, off, ha, hc⟩
  · exact .inl h0
  · exact .inr ⟨b, off, ha, fun i c hi => Byts.cell (n := n) ha hc hb hi⟩
theorem take_set_snoc {α : Type} (xs : List α) (k : Nat) (u : α) (h : k < xs.length) : (xs.set k u).take (k + 1) = xs.take k ++ [u] := by
  rw [List.take_succ_eq_append_getElem (by simpa using h)]
  rw [List.take_set, List.getElem_set_self, List.set_eq_of_length_le (by simp; omega)]

/-- what the copy's loop keeps -/
def Cop (w wr : World) (n : Nat) (l : List UInt8) (k : Nat) : Prop :=
  Below w.heap.size w wr ∧ ∃ xs, wr.ownsRow w.heap.size 5 1 (.slice (some ⟨w.heap.size, 0, none⟩) n n) n xs ∧ xs.take k = (l.take k).map bv
theorem Cop.cell {w wr : World} {n : Nat} {l : List UInt8} {k : Nat} (h : Cop w wr n l k) (hk : k < n) : ∃ u, wr.cell? ⟨w.heap.size, k, none⟩ = some u := by
  obtain ⟨_, xs, ho, _⟩ := h
  have hl : xs.length = n := by have := ho.1; simpa using this
  exact ⟨_, (ho.cellAt k (by omega)).trans (List.getElem?_eq_getElem (by omega))⟩
theorem Cop.free {w wr : World} {n : Nat} {l : List UInt8} {k : Nat} (h : Cop w wr n l k) : wr.frozen? ⟨w.heap.size, k, none⟩ = false := by
  obtain ⟨_, xs, ho, _⟩ := h
  exact ho.frozenAt k
theorem Cop.store {w wr : World} {n : Nat} {l : List UInt8} {k : Nat} (h : Cop w wr n l k) (hk : k < n) {c : UInt8} (hs : l[k]? = some c) : Cop w (wr.setCell ⟨w.heap.size, k, none⟩ (bv c)) n l (k + 1) := by
  obtain ⟨h1, xs, ho, ht⟩ := h
  have hl : xs.length = n := by have := ho.1; simpa using this
  refine ⟨h1.setCell (Nat.le_refl _) _, _, (ho.stored k (bv c)).1, ?_⟩
  rw [take_set_snoc xs k _ (by omega), ht, List.take_add_one, hs]
  simp
theorem Cop.fin {w wr : World} {n : Nat} {l : List UInt8} (h : Cop w wr n l n) (hs : l.length = n) :
    wr.ownsRow w.heap.size 5 1 (.slice (some ⟨w.heap.size, 0, none⟩) n n) n (l.map bv) ∧ Below w.heap.size w wr := by
  obtain ⟨h1, xs, ho, ht⟩ := h
  have hl : xs.length = n := by have := ho.1; simpa using this
  rw [List.take_of_length_le (by omega), List.take_of_length_le (by omega)] at ht
  rw [← ht]
  exact ⟨ho, h1⟩

set_option maxHeartbeats 1000000 in
theorem clone_nil (c : Nat) (w : World) :
    Calls Try.prog 6 #[.slice none 0 c] w fun e w' => e = .returned (.slice none 0 0) ∧ w' = w := by
  have hq := fun wx => Lib.run_eql_slice_nil (P := Try.prog) wx 22 5 none 0 c 0 0 Try.underlying22
  go_enter Try.func6, Try.ntmps6
  go_wp2
  go_ret
  exact ⟨rfl, rfl⟩

set_option maxHeartbeats 1000000 in
theorem clone_some (ad : Addr) (n c : Nat) (l : List UInt8) (w : World) (hn : n ≤ 1048576) (hs : Byts w (some ad) n l) :
    Calls Try.prog 6 #[.slice (some ad) n c] w fun e w' => e = .returned (.slice (some ⟨w.heap.size, 0, none⟩) n n) ∧ w'.ownsRow w.heap.size 5 1 (.slice (some ⟨w.heap.size, 0, none⟩) n n) n (l.map bv) ∧ Below w.heap.size w w' := by
  have hq := fun wx => Lib.run_eql_slice_nil (P := Try.prog) wx 22 5 (some ad) n c 0 0 Try.underlying22
  obtain ⟨i0, hi, hz0, hz1, hz2⟩ := info_parts info5
  have hni : (n : Int) ≤ 1048576 := by omega
  have HS : Hid (Byts w (some ad) n l) := hs
  clear hs
  go_enter Try.func6, Try.ntmps6
  go_wp2_with (at_make; refine wpList_make_full _ rfl _ _ 22 rfl w.heap.size 5 i0 (.int .u8 0) 1 Try.underlying22 hi hz0 hz1 .i64 .i64 _ _ n rfl rfl (by omega) (by omega) (by rw [hz2]; omega) (by unfold maxLen; omega) (Nat.le_refl _) ?_; intro w1 hown hgrow)
  have HC : Cop w w1 n l 0 := ⟨(Below.refl _ _).grown hgrow (Nat.le_refl _) (by simp), _, hown, by simp⟩
  clear hown hgrow
  go_loopw [4] (fun i wr => ∃ k : Nat, k ≤ n ∧ i = .int .i64 k ∧ Cop w wr n l k) (fun i _ => n - (intOf i).toNat)
  case atStart => exact ⟨0, by omega, rfl, HC⟩
  case round =>
    obtain ⟨k, hk, rfl, HK⟩ := hrel
    by_cases hlt : k < n
    · have hS := HS.out
      obtain ⟨s, es⟩ : ∃ s, l[k]? = some s := ⟨_, List.getElem?_eq_getElem (by have := hS.1; omega)⟩
      obtain ⟨b, off, hab, hc⟩ := hS.2.resolve_left (by omega)
      obtain rfl : ad = ⟨b, off, none⟩ := by simpa using hab
      have hcell := Byts.cell (n := n) rfl hc HK.1 es
      obtain ⟨u, hu⟩ := HK.cell hlt
      have hfr := HK.free
      have ES : Hid (l[k]? = some s) := es
      clear es hc hS HC hab
      go_wp2
      go_roundw
      case rel => exact ⟨k + 1, by omega, by go_num, HK.store hlt ES.out⟩
      case measure => simp [intOf]; omega
    · go_wp2
      go_ret
      obtain rfl : k = n := by omega
      exact ⟨rfl, HK.fin HS.out.1⟩

/-- jsb1Clone: a copy in new memory; nil stays nil -/
theorem clone_any (a : Option Addr) (n c : Nat) (l : List UInt8) (w : World) (hn : n ≤ 1048576) (h0 : a = none → n = 0) (hs : Byts w a n l) :
    Calls Try.prog 6 #[.slice a n c] w fun e w' => ∃ v', e = .returned v' ∧ w'.ownsRow w.heap.size 5 1 v' n (l.map bv) ∧ Below w.heap.size w w' := by
  cases a with
  | none =>
    obtain rfl := h0 rfl
    obtain rfl : l = [] := List.length_eq_zero_iff.1 hs.1
    refine (clone_nil c w).mono ?_
    rintro e w' ⟨rfl, rfl⟩
    exact ⟨_, rfl, World.ownsRow_nil _ _ _ _, Below.refl _ _⟩
  | some ad =>
    refine (clone_some ad n c l w hn hs).mono ?_
    rintro e w' ⟨rfl, h1, h2⟩
    exact ⟨_, rfl, h1, h2⟩

/-- an owned row of bytes, as a slice of bytes -/
theorem own_byts {w : World} {base : Nat} {v : Value} {n : Nat} {l : List UInt8} (h : w.ownsRow base 5 1 v n (l.map bv)) :
    ∃ a cap, v = .slice a n cap ∧ Byts w a n l ∧ (a = none → n = 0) := by
  have hl : l.length = n := by have := h.1; simpa using this
  rcases h.2 with ⟨rfl, rfl⟩ | ⟨g, cap, cur, rfl, r⟩
  · exact ⟨none, 0, rfl, ⟨hl, .inl rfl⟩, fun _ => rfl⟩
  · refine ⟨_, cap, rfl, ⟨hl, ?_⟩, by simp⟩
    rcases Nat.eq_zero_or_pos n with h0 | h0
    · exact .inl h0
    · refine .inr ⟨g, 0, rfl, fun i s hs => ?_⟩
      have := h.cells rfl i (bv s) (by simp [hs])
      rwa [Addr.add_lit] at this
theorem own_below {w w' : World} {base : Nat} {e : TypeId} {v : Value} {n : Nat} {xs : List Value} (h : w.ownsRow base e 1 v n xs) (hb : Below w.heap.size w w') : w'.ownsRow base e 1 v n xs := by
  refine ⟨h.1, ?_⟩
  rcases h.2 with hn | ⟨g, cap, cur, rfl, hg, hh, r⟩
  · exact .inl hn
  · exact .inr ⟨g, cap, cur, rfl, hg, (hb.block g (lt_of_block hh)).trans hh, r⟩
theorem chain {w wk w1 : World} (h : Below w.heap.size w wk) (hb : Below wk.heap.size wk w1) : Below w.heap.size w w1 := h.trans (hb.mono h.size)

/-- numbers that fit a byte, as bytes -/
theorem row_byts {w : World} {a : Option Addr} {len cap : Nat} {zs : List Int}
    (h : (a = none ∧ len = 0 ∧ cap = 0 ∧ zs = []) ∨ ∃ x, a = some x ∧ len ≤ cap ∧ cap ≤ maxLen ∧ zs.length = cap ∧ (∀ i, i < zs.length → w.cell? (x.add i) = some (.int .u8 (zs.getD i 0))) ∧ ∀ n ∈ zs, (Lit.int .u8 n).wf = true) :
    ∃ l, Byts w a len l ∧ len ≤ maxLen ∧ (a = none → len = 0) := by
  rcases h with ⟨rfl, rfl, rfl, rfl⟩ | ⟨x, rfl, hl, hm, hz, hcell, hwf⟩
  · exact ⟨[], ⟨rfl, .inl rfl⟩, Nat.zero_le _, fun _ => rfl⟩
  · refine ⟨(zs.take len).map (fun z => UInt8.ofNat z.toNat), ⟨by simp; omega, ?_⟩, by omega, by simp⟩
    rcases Nat.eq_zero_or_pos len with h0 | h0
    · exact .inl h0
    · right
      obtain ⟨b, off, spot⟩ := x
      have hspot : spot = none := by simpa [Addr.add] using World.cell?_spot (hcell 0 (by omega))
      subst hspot
      refine ⟨b, off, rfl, fun i c hi => ?_⟩
      rw [List.getElem?_map, Option.map_eq_some_iff] at hi
      obtain ⟨z, hz1, rfl⟩ := hi
      have hz2 : zs[i]? = some z := by
        rw [List.getElem?_take] at hz1
        split at hz1
        · exact hz1
        · simp at hz1
      have hil : i < zs.length := (List.getElem?_eq_some_iff.1 hz2).1
      have h1 := hcell i hil
      rw [Addr.add_lit] at h1
      rw [h1]
      have hw := hwf z (List.mem_of_getElem? hz2)
      have hb : 0 ≤ z ∧ z ≤ 255 := bounds_u8 hw
      have e : zs.getD i 0 = z := by simp [List.getD, hz2]
      rw [e]
      have e2 : ((UInt8.ofNat z.toNat).toNat : Int) = z := by rw [UInt8.toNat_ofNat']; omega
      show some (Value.int .u8 z) = some (.int .u8 ((UInt8.ofNat z.toNat).toNat : Int))
      rw [e2]
end Go.Proofs.Qxb6605400a
