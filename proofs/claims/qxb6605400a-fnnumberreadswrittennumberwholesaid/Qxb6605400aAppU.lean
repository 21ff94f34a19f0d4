/-
  jsb1AppendUint appends 'Num.dec'.
-/
import Derived.Test.Qxb6605400aClone
import Derived.Test.Qxb6605400aDec
namespace Go.Proofs.Qxb6605400a
open Go.RowKit
set_option linter.unusedVariables false

/-- block B is the array 'tmp'; its first places hold the bytes l -/
def Buf (w : World) (B : Nat) (l : List UInt8) : Prop :=
  ∃ cur : Array Value, w.heap[B]? = some (.cells cur 33 (0, 0)) ∧ cur.size = 20 ∧ l.length ≤ 20 ∧ ∀ (t : Nat) (c : UInt8), l[t]? = some c → cur[t]? = some (bv c)
theorem Buf.cell {w : World} {B : Nat} {l : List UInt8} (h : Buf w B l) (t : Nat) (ht : t < 20) : ∃ u, w.cell? ⟨B, t, none⟩ = some u := by
  obtain ⟨cur, h1, h2, _, _⟩ := h
  exact ⟨_, (cell_of_row w B t cur 33 _ h1).trans (Array.getElem?_eq_getElem (by omega))⟩
theorem Buf.free {w : World} {B : Nat} {l : List UInt8} (h : Buf w B l) (t : Nat) : w.frozen? ⟨B, t, none⟩ = false := by
  obtain ⟨cur, h1, _⟩ := h
  exact frozen_of_row w B t cur 33 h1
theorem Buf.read {w : World} {B : Nat} {l : List UInt8} (h : Buf w B l) (t : Nat) (c : UInt8) (hc : l[t]? = some c) : w.cell? ⟨B, t, none⟩ = some (bv c) := by
  obtain ⟨cur, h1, _, _, h4⟩ := h
  exact (cell_of_row w B _ cur 33 _ h1).trans (h4 t c hc)
theorem Buf.store {w : World} {B : Nat} {l : List UInt8} (h : Buf w B l) (hl : l.length < 20) (c : UInt8) : Buf (w.setCell ⟨B, l.length, none⟩ (bv c)) B (l ++ [c]) := by
  obtain ⟨cur, h1, h2, h3, h4⟩ := h
  refine ⟨_, heap_setCell_same w B l.length cur 33 (bv c) h1, by simpa using h2, by simp; omega, ?_⟩
  intro t d hd
  rw [Array.getElem?_setIfInBounds]
  by_cases ht : l.length = t
  · subst ht
    rw [if_pos rfl, if_pos (by omega)]
    simp at hd; rw [hd]
  · rw [if_neg ht]
    have htl : t < (l ++ [c]).length := (List.getElem?_eq_some_iff.1 hd).1
    rw [List.getElem?_append_left (by simp at htl; omega)] at hd
    exact h4 t d hd
theorem Buf.kept {w w' : World} {B : Nat} {l : List UInt8} {row : Option Nat} (h : Buf w B l) (hg : w.grownBy w' row) (hr : some B ≠ row) : Buf w' B l := by
  obtain ⟨cur, h1, r⟩ := h
  exact ⟨cur, (hg.block B (lt_of_block h1) hr).trans h1, r⟩
/-- a row of bytes is another block -/
theorem Buf.ne {w : World} {B : Nat} {l : List UInt8} (h : Buf w B l) {base : Nat} {v : Value} {n : Nat} {xs : List Value} (ho : w.ownsRow base 5 1 v n xs) : some B ≠ v.ownBlock := by
  obtain ⟨cur, h1, _⟩ := h
  rcases ho.2 with ⟨rfl, _⟩ | ⟨g, cap, cu, rfl, _, hg, _⟩
  · simp [Value.ownBlock]
  · intro e
    simp [Value.ownBlock] at e
    subst e
    rw [h1] at hg; simp at hg
theorem Buf.start (w : World) : Buf (w.alloc (.cells (Array.replicate 20 (.int .u8 0)) 33)) w.heap.size [] :=
  ⟨_, heap_alloc_new w _, by simp, by simp, by simp⟩

/-- what the first loop keeps -/
def Mid (base : Nat) (w wr : World) (v : Value) (m : Nat) (xs : List Value) (l : List UInt8) : Prop :=
  Buf wr w.heap.size l ∧ wr.ownsRow base 5 1 v m xs ∧ Below w.heap.size w wr
theorem Mid.store {base : Nat} {w wr : World} {v : Value} {m : Nat} {xs : List Value} {l : List UInt8} (h : Mid base w wr v m xs l) (hl : l.length < 20) (c : UInt8) (z : Int) (hz : z = c.toNat) :
    Mid base w (wr.setCell ⟨w.heap.size, l.length, none⟩ (.int .u8 z)) v m xs (l ++ [c]) := by
  obtain ⟨h1, h2, h3⟩ := h
  subst hz
  exact ⟨h1.store hl c, ownsRow_setCell_other h2 (fun e => h1.ne h2 e.symm) _, h3.setCell (Nat.le_refl _) _⟩
/-- what the second loop keeps: the places from j on have been taken -/
def Out (base : Nat) (w wr : World) (o : Value) (m : Nat) (xs : List Value) (l : List UInt8) (j : Nat) : Prop :=
  Buf wr w.heap.size l ∧ wr.ownsRow base 5 1 o (m + (l.length - j)) (xs ++ (l.drop j).reverse.map bv) ∧ Below base w wr
theorem Out.step {base : Nat} {w wr w1 : World} {o o' : Value} {m : Nat} {xs : List Value} {l : List UInt8} {j : Nat} {c : UInt8} {O : Obj} (hb : base ≤ w.heap.size) (h : Out base w wr o m xs l (j + 1)) (hc : l[j]? = some c)
    (ho : w1.ownsRow base 5 1 o' (m + (l.length - (j + 1)) + 1) (xs ++ (l.drop (j + 1)).reverse.map bv ++ [bv c])) (hg : (wr.alloc O).grownBy w1 o.ownBlock) : Out base w w1 o' m xs l j := by
  obtain ⟨h1, h2, h3⟩ := h
  have hs := h3.size
  have hj : j < l.length := (List.getElem?_eq_some_iff.1 hc).1
  have hg2 : l[j] = c := (List.getElem?_eq_some_iff.1 hc).2
  refine ⟨(h1.kept (World.grownBy_alloc wr O none) (by simp)).kept hg (h1.ne h2), ?_, ?_⟩
  · rw [List.drop_eq_getElem_cons hj, hg2, show m + (l.length - j) = m + (l.length - (j + 1)) + 1 by omega]
    simpa using ho
  · exact (h3.alloc (by omega) O).grown hg (by simp; omega) (fun k hk => (h2.lt k hk).1)

set_option maxHeartbeats 1000000 in
theorem appU_any (base : Nat) (v : Value) (m : Nat) (xs : List Value) (N : Nat) (w : World) (hN : (N : Int) ≤ 18446744073709551615)
    (hown : w.ownsRow base 5 1 v m xs) (hb : base ≤ w.heap.size) (hm : m + 24 ≤ 70368744177664) :
    Calls Try.prog 11 #[v, .int .u64 N] w fun e w' => ∃ v', e = .returned v' ∧ w'.ownsRow base 5 1 v' (m + (Num.dec N).length) (xs ++ (Num.dec N).map bv) ∧ Below base w w' := by
  obtain ⟨i0, hi, hz0, hz1, hz2⟩ := info_parts info5
  go_enter Try.func11, Try.ntmps11
  go_wp2
  go_loopw [1, 6] (fun u i wr => ∃ (f x : Nat) (l : List UInt8), l.length + f = 19 ∧ (x : Int) ≤ 18446744073709551615 ∧ i = .int .i64 l.length ∧ u = .int .u64 x ∧ Mid base w wr v m xs l ∧ Hid (x < 10 ^ (f + 1) ∧ l ++ Num.rdF (f + 1) x = Num.rdF 20 N)) (fun _ i _ => 20 - (intOf i).toNat)
  case atStart => exact ⟨19, N, [], rfl, hN, rfl, rfl, ⟨Buf.start w, hown.alloc _, (Below.refl _ _).alloc (Nat.le_refl _) _⟩, ⟨by omega, rfl⟩⟩
  case round =>
    obtain ⟨f, x, l, hlf, hx, rfl, rfl, HM, HD⟩ := hrel
    have hl20 : (l.length : Int) < 20 := by omega
    obtain ⟨u, hu⟩ := HM.1.cell l.length (by omega)
    have hfr := HM.1.free l.length
    have HLF : Hid (l.length + f = 19) := hlf
    clear hlf
    by_cases hz : x / 10 = 0
    · have hzb : ((x : Int) / 10 == 0) = true := by simp; omega
      have HZ : Hid (x / 10 = 0) := hz
      clear hz
      have hmid := HM.store (by omega) (Num.ch x) (48 + (x : Int) % 10) (by rw [Num.ch_toNat]; omega)
      obtain ⟨L, hL⟩ : ∃ L, L = l ++ [Num.ch x] := ⟨_, rfl⟩
      have hLd : L.reverse = Num.dec N := by
        have h2 := HD.out.2
        rw [Num.rdF_last f x HZ.out, ← hL] at h2
        unfold Num.dec; rw [h2]
      have hLl : l.length + 1 = L.length := by rw [hL]; simp
      rw [← hL] at hmid
      have HMID : Hid (Mid base w (wr.setCell ⟨w.heap.size, l.length, none⟩ (.int .u8 (48 + (x : Int) % 10))) v m xs L) := hmid
      have HLD : Hid (L.reverse = Num.dec N) := hLd
      have HLL : Hid (l.length + 1 = L.length) := hLl
      have hL20 : (L.length : Int) ≤ 20 := by omega
      clear hmid hL hLd hLl HD HM
      go_wp2
      go_loopw [0, 6] (fun o i wr => ∃ j : Nat, j ≤ L.length ∧ i = .int .i64 j ∧ Out base w wr o m xs L j) (fun _ i _ => (intOf i).toNat)
      case atStart =>
        refine ⟨L.length, Nat.le_refl _, by rw [← HLL.out]; go_num, HMID.out.1, ?_, HMID.out.2.2.mono hb⟩
        simpa using HMID.out.2.1
      case round =>
        obtain ⟨j, hj, rfl, HO⟩ := hrel
        by_cases hpos : 0 < j
        · obtain ⟨k, rfl⟩ : ∃ k, j = k + 1 := ⟨j - 1, by omega⟩
          obtain ⟨c, hc⟩ : ∃ c, L[k]? = some c := ⟨_, List.getElem?_eq_getElem (by omega)⟩
          have hcell := HO.1.read k c hc
          have HC : Hid (L[k]? = some c) := hc
          clear hc hfr hu
          go_wp2_with (at_builtin; refine wpList_append_own _ rfl (.tmp 23) (.tmp 27) 22 rfl base 5 i0 (.int .u8 0) 1 1 Try.underlying22 hi hz0 hz1 hz2 rfl (by decide) _ _ _ rfl (HO.2.1.alloc _) ⟨wr.heap.size, 0, none⟩ 1 1 [bv c] rfl rfl (cell_one_new _ _ _) ?c2 ?c3 ?c4 ?c5 ?_)
          case c2 => intro u hu; simp at hu; subst hu; rfl
          case c3 => unfold maxLen; omega
          case c4 => omega
          case c5 => have := HO.2.2.size; simp; omega
          · intro v' w1 hown' hgrow _
            have HO' := HO.step hb HC.out (by simpa using hown') hgrow
            clear hown' hgrow HO hcell
            go_wp2
            go_roundw
            case rel => exact ⟨k, by omega, by go_num, HO'⟩
            case measure => simp [intOf]
        · obtain rfl : j = 0 := by omega
          go_wp2
          go_ret
          obtain ⟨h1, h2, h3⟩ := HO
          rw [List.drop_zero, HLD.out, Nat.sub_zero, ← List.length_reverse, HLD.out] at h2
          exact ⟨_, rfl, h2, h3⟩
    · have hzb : ((x : Int) / 10 == 0) = false := by simp; omega
      go_wp2
      go_roundw
      case rel =>
        obtain ⟨g1, g2⟩ := HD.out
        have hf : f ≠ 0 := by
          rintro rfl
          simp at g1; omega
        obtain ⟨f', rfl⟩ : ∃ f', f = f' + 1 := ⟨f - 1, by omega⟩
        rw [Num.rdF_more _ x hz] at g2
        exact ⟨f', x / 10, l ++ [Num.ch x], by have := HLF.out; simp; omega, by omega, by simp, by go_num, HM.store (by omega) (Num.ch x) _ (by rw [Num.ch_toNat]; omega), ⟨by rw [Nat.pow_succ] at g1; omega, by simpa using g2⟩⟩
      case measure => simp [intOf]; omega
end Go.Proofs.Qxb6605400a
