/-
  appendDecimal appends 'Dig.dec'.
-/
import Derived.Test.Qxb6605335aRows
import Derived.Test.Qxb6605335aDec
import Derived.WalkKit
import Derived.WalkSpells
namespace Go.Proofs.Qxb6605335a
open Go.RowKit
set_option linter.unusedVariables false

/-- the bytes as values -/
abbrev bv (c : UInt8) : Value := .int .u8 c.toNat
/-- block B is the array 'buf'; from place j on it holds the bytes l -/
def Buf (w : World) (B j : Nat) (l : List UInt8) : Prop :=
  ∃ cur : Array Value, w.heap[B]? = some (.cells cur 39 (0, 0)) ∧ cur.size = 24 ∧ l.length + j = 24 ∧ ∀ t c, l[t]? = some c → cur[j + t]? = some (bv c)

theorem Buf.cell {w : World} {B j : Nat} {l : List UInt8} (h : Buf w B j l) (t : Nat) (ht : t < 24) : ∃ u, w.cell? ⟨B, t, none⟩ = some u := by
  obtain ⟨cur, h1, h2, _, _⟩ := h
  exact ⟨_, (cell_of_row w B t cur 39 _ h1).trans (Array.getElem?_eq_getElem (by omega))⟩
theorem Buf.free {w : World} {B j : Nat} {l : List UInt8} (h : Buf w B j l) (t : Nat) : w.frozen? ⟨B, t, none⟩ = false := by
  obtain ⟨cur, h1, _⟩ := h
  exact frozen_of_row w B t cur 39 h1
theorem Buf.lt {w : World} {B j : Nat} {l : List UInt8} (h : Buf w B j l) : B < w.heap.size := by
  obtain ⟨cur, h1, _⟩ := h
  exact lt_of_block h1
theorem Buf.read {w : World} {B j : Nat} {l : List UInt8} (h : Buf w B j l) (t : Nat) (c : UInt8) (hc : l[t]? = some c) : w.cell? ⟨B, j + t, none⟩ = some (bv c) := by
  obtain ⟨cur, h1, _, _, h4⟩ := h
  exact (cell_of_row w B _ cur 39 _ h1).trans (h4 t c hc)
theorem Buf.store {w : World} {B j : Nat} {l : List UInt8} (h : Buf w B (j + 1) l) (c : UInt8) : Buf (w.setCell ⟨B, j, none⟩ (bv c)) B j (c :: l) := by
  obtain ⟨cur, h1, h2, h3, h4⟩ := h
  refine ⟨_, heap_setCell_same w B j cur 39 (bv c) h1, by simpa using h2, by simp; omega, ?_⟩
  intro t d hd
  cases t with
  | zero => simp at hd; subst hd; simp [Array.getElem?_setIfInBounds]; omega
  | succ t =>
    simp at hd
    have := h4 t d hd
    rw [show j + 1 + t = j + (t + 1) by omega] at this
    simpa [Array.getElem?_setIfInBounds] using this
theorem Buf.kept {w w' : World} {B j : Nat} {l : List UInt8} {row : Option Nat} (h : Buf w B j l) (hg : w.grownBy w' row) (hr : some B ≠ row) : Buf w' B j l := by
  obtain ⟨cur, h1, r⟩ := h
  exact ⟨cur, (hg.block B (lt_of_block h1) hr).trans h1, r⟩
/-- a row of bytes is another block -/
theorem Buf.ne {w : World} {B j : Nat} {l : List UInt8} (h : Buf w B j l) {base : Nat} {v : Value} {n : Nat} {xs : List Value} (ho : w.ownsRow base 5 1 v n xs) : some B ≠ v.ownBlock := by
  obtain ⟨cur, h1, _⟩ := h
  rcases ho.2 with ⟨rfl, _⟩ | ⟨g, cap, cu, rfl, _, hg, _⟩
  · simp [Value.ownBlock]
  · intro e
    simp [Value.ownBlock] at e
    subst e
    rw [h1] at hg; simp at hg

theorem Buf.start (w : World) : Buf (w.alloc (.cells (Array.replicate 24 (.int .u8 0)) 39)) w.heap.size 24 [] :=
  ⟨_, heap_alloc_new w _, by simp, by simp, by simp⟩

theorem info5 : (Try.prog.info? 5).map (fun i => (i.zero, i.size, i.bytes)) = some (some (.int .u8 0), 1, 1) := by kernel_rfl

/-- what the first loop leaves: the digits in buf, all else as it was -/
def Mid (base : Nat) (w wr : World) (v : Value) (m : Nat) (xs : List Value) (j : Nat) (l : List UInt8) : Prop :=
  Buf wr w.heap.size j l ∧ wr.ownsRow base 5 1 v m xs ∧ Below w.heap.size w wr

theorem Mid.store {base : Nat} {w wr : World} {v : Value} {m : Nat} {xs : List Value} {j : Nat} {l : List UInt8} (h : Mid base w wr v m xs (j + 1) l) (c : UInt8) (z : Int) (hz : z = c.toNat) :
    Mid base w (wr.setCell ⟨w.heap.size, j, none⟩ (.int .u8 z)) v m xs j (c :: l) := by
  obtain ⟨h1, h2, h3⟩ := h
  subst hz
  exact ⟨h1.store c, ownsRow_setCell_other h2 (fun e => h1.ne h2 e.symm) _, h3.setCell (Nat.le_refl _) _⟩

theorem at23 (A : Array Value) (hA : A[23]? = some (.int .u8 48)) (t : Nat) (c : UInt8) (hc : [(48 : UInt8)][t]? = some c) : A[23 + t]? = some (bv c) := by
  cases t with
  | zero => simp at hc; subst hc; exact hA
  | succ t => simp at hc

/-- what the second loop keeps -/
def Out (base : Nat) (w wr : World) (o : Value) (m : Nat) (xs : List Value) (j : Nat) (l : List UInt8) (t : Nat) : Prop :=
  Buf wr w.heap.size j l ∧ wr.ownsRow base 5 1 o (m + t) (xs ++ (l.take t).map bv) ∧ Below base w wr

theorem Out.step {base : Nat} {w wr w1 : World} {o o' : Value} {m : Nat} {xs : List Value} {j : Nat} {l : List UInt8} {t : Nat} {c : UInt8} {O : Obj} (hb : base ≤ w.heap.size) (h : Out base w wr o m xs j l t) (hc : l[t]? = some c)
    (ho : w1.ownsRow base 5 1 o' (m + t + 1) (xs ++ (List.take t (List.map bv l) ++ [bv c]))) (hg : (wr.alloc O).grownBy w1 o.ownBlock) : Out base w w1 o' m xs j l (t + 1) := by
  obtain ⟨h1, h2, h3⟩ := h
  have hs := h3.size
  refine ⟨(h1.kept (World.grownBy_alloc wr O none) (by simp)).kept hg ?_, ?_, ?_⟩
  · exact h1.ne h2
  · rw [List.take_add_one, hc]
    simpa [Nat.add_assoc, List.map_take] using ho
  · exact (h3.alloc (by omega) O).grown hg (by simp; omega) (fun k hk => (h2.lt k hk).1)

set_option maxHeartbeats 1000000 in
theorem appDec_pos (base : Nat) (v : Value) (m : Nat) (xs : List Value) (N : Nat) (w : World) (hN : (N : Int) ≤ 9223372036854775807) (h0 : 0 < N)
    (hown : w.ownsRow base 5 1 v m xs) (hb : base ≤ w.heap.size) (hm : m + 24 ≤ 70368744177664) :
    Calls Try.prog 13 #[v, .int .i64 N] w fun e w' => ∃ v', e = .returned v' ∧ w'.ownsRow base 5 1 v' (m + (Dig.dec N).length) (xs ++ (Dig.dec N).map bv) ∧ Below base w w' := by
  obtain ⟨i0, hi, hz0, hz1, hz2⟩ := info_parts info5
  have hc0 : ((N : Int) == 0) = false := by simp; omega
  go_enter Try.func13, Try.ntmps13
  go_wp2
  go_loopw [1, 6] (fun n i wr => ∃ (j x : Nat) (l : List UInt8), j ≤ 24 ∧ (x : Int) ≤ 9223372036854775807 ∧ i = .int .i64 j ∧ n = .int .i64 x ∧ Mid base w wr v m xs j l ∧ Hid (x < 10 ^ j ∧ Dig.decF j x ++ l = Dig.dec N)) (fun _ i _ => (intOf i).toNat)
  case atStart => exact ⟨24, N, [], by omega, by omega, rfl, rfl, ⟨Buf.start w, hown.alloc _, (Below.refl _ _).alloc (Nat.le_refl _) _⟩, ⟨by omega, by rw [List.append_nil, Dig.dec, if_neg (by omega)]⟩⟩
  case round =>
    obtain ⟨j, x, l, hj, hx, rfl, rfl, HM, HD⟩ := hrel
    by_cases hpos : 0 < x
    · obtain ⟨k, rfl⟩ : ∃ k, j = k + 1 := by
        cases j with
        | zero => have := HD.out.1; simp at this; omega
        | succ k => exact ⟨k, rfl⟩
      obtain ⟨u, hu⟩ := HM.1.cell k (by omega)
      have hfr := HM.1.free k
      have hxi : (0 : Int) < x := by omega
      go_wp2
      go_roundw
      case rel =>
        obtain ⟨g1, g2⟩ := HD.out
        rw [Dig.decF_succ k x hpos, List.append_assoc] at g2
        exact ⟨k, x / 10, _, by omega, by omega, rfl, by go_num, HM.store (Dig.ch x) _ (by rw [Dig.ch_toNat]; omega), ⟨by rw [Nat.pow_succ] at g1; omega, g2⟩⟩
      case measure => simp [intOf]
    · obtain rfl : x = 0 := by omega
      rw [show ((0 : Nat) : Int) = 0 from rfl]
      clear hx hpos
      have hl : l = Dig.dec N := by have := HD.out.2; rwa [Dig.decF_zero, List.nil_append] at this
      have HL : Hid _ := hl
      clear hl HD
      have hll : l.length + j = 24 := by obtain ⟨⟨_, _, _, h, _⟩, _⟩ := HM; exact h
      have HLL : Hid _ := hll
      clear hll
      go_wp2
      go_loopw [0, 6] (fun o i wr => ∃ t : Nat, j + t ≤ 24 ∧ i = .int .i64 ((j + t : Nat) : Int) ∧ Out base w wr o m xs j l t) (fun _ i _ => 24 - (intOf i).toNat)
      case atStart => exact ⟨0, by omega, rfl, HM.1, by simpa using HM.2.1, HM.2.2.mono hb⟩
      case round =>
        obtain ⟨t, ht, rfl, HO⟩ := hrel
        by_cases hlt : j + t < 24
        · have htl : t < l.length := by have := HLL.out; omega
          obtain ⟨c, hc⟩ : ∃ c, l[t]? = some c := ⟨_, List.getElem?_eq_getElem htl⟩
          have hcell := HO.1.read t c hc
          have HC : Hid _ := hc
          clear hc htl
          go_wp2_with (at_builtin; refine wpList_append_own _ rfl (.tmp 29) (.tmp 33) 26 rfl base 5 i0 (.int .u8 0) 1 1 Try.underlying26 hi hz0 hz1 hz2 rfl (by decide) _ _ _ rfl (HO.2.1.alloc _) ⟨wr.heap.size, 0, none⟩ 1 1 [bv c] rfl rfl (cell_one_new _ _ _) ?c2 ?c3 ?c4 ?c5 ?_)
          case c2 => intro u hu; simp at hu; subst hu; rfl
          case c3 => unfold maxLen; omega
          case c4 => omega
          case c5 => have := HO.2.2.size; simp; omega
          · intro v' w1 hown' hgrow _
            have HO' := HO.step hb HC.out hown' hgrow
            clear hown' hgrow HO hcell
            go_wp2
            go_roundw
            case rel => exact ⟨t + 1, by omega, by go_num, HO'⟩
            case measure => simp [intOf]; omega
        · go_wp2
          go_ret
          have hll := HLL.out
          obtain ⟨h1, h2, h3⟩ := HO
          rw [List.take_of_length_le (by omega), show t = l.length by omega] at h2
          rw [← HL.out]
          exact ⟨_, rfl, h2, h3⟩

set_option maxHeartbeats 1000000 in
theorem appDec_zero (base : Nat) (v : Value) (m : Nat) (xs : List Value) (N : Nat) (w : World) (hN : (N : Int) ≤ 9223372036854775807) (h0 : 0 = N)
    (hown : w.ownsRow base 5 1 v m xs) (hb : base ≤ w.heap.size) (hm : m + 24 ≤ 70368744177664) :
    Calls Try.prog 13 #[v, .int .i64 N] w fun e w' => ∃ v', e = .returned v' ∧ w'.ownsRow base 5 1 v' (m + (Dig.dec N).length) (xs ++ (Dig.dec N).map bv) ∧ Below base w w' := by
  obtain ⟨i0, hi, hz0, hz1, hz2⟩ := info_parts info5
  have hc0 : ((N : Int) == 0) = true := by simp; omega
  have H0 : Hid (0 = N) := h0
  clear h0
  go_enter Try.func13, Try.ntmps13
  go_wp2
  go_loopw [1, 6] (fun n i wr => ∃ (j x : Nat) (l : List UInt8), j ≤ 24 ∧ (x : Int) ≤ 9223372036854775807 ∧ i = .int .i64 j ∧ n = .int .i64 x ∧ Mid base w wr v m xs j l ∧ Hid (x < 10 ^ j ∧ Dig.decF j x ++ l = Dig.dec N)) (fun _ i _ => (intOf i).toNat)
  case atStart => exact ⟨23, N, [48], by omega, by omega, rfl, rfl, ⟨⟨_, heap_alloc_new w _, rfl, rfl, at23 _ rfl⟩, hown.alloc _, (Below.refl _ _).alloc (Nat.le_refl _) _⟩, ⟨by rw [← H0.out]; omega, by rw [← H0.out]; rfl⟩⟩
  case round =>
    obtain ⟨j, x, l, hj, hx, rfl, rfl, HM, HD⟩ := hrel
    by_cases hpos : 0 < x
    · obtain ⟨k, rfl⟩ : ∃ k, j = k + 1 := by
        cases j with
        | zero => have := HD.out.1; simp at this; omega
        | succ k => exact ⟨k, rfl⟩
      obtain ⟨u, hu⟩ := HM.1.cell k (by omega)
      have hfr := HM.1.free k
      have hxi : (0 : Int) < x := by omega
      go_wp2
      go_roundw
      case rel =>
        obtain ⟨g1, g2⟩ := HD.out
        rw [Dig.decF_succ k x hpos, List.append_assoc] at g2
        exact ⟨k, x / 10, _, by omega, by omega, rfl, by go_num, HM.store (Dig.ch x) _ (by rw [Dig.ch_toNat]; omega), ⟨by rw [Nat.pow_succ] at g1; omega, g2⟩⟩
      case measure => simp [intOf]
    · obtain rfl : x = 0 := by omega
      rw [show ((0 : Nat) : Int) = 0 from rfl]
      clear hx hpos
      have hl : l = Dig.dec N := by have := HD.out.2; rwa [Dig.decF_zero, List.nil_append] at this
      have HL : Hid _ := hl
      clear hl HD
      have hll : l.length + j = 24 := by obtain ⟨⟨_, _, _, h, _⟩, _⟩ := HM; exact h
      have HLL : Hid _ := hll
      clear hll
      go_wp2
      go_loopw [0, 6] (fun o i wr => ∃ t : Nat, j + t ≤ 24 ∧ i = .int .i64 ((j + t : Nat) : Int) ∧ Out base w wr o m xs j l t) (fun _ i _ => 24 - (intOf i).toNat)
      case atStart => exact ⟨0, by omega, rfl, HM.1, by simpa using HM.2.1, HM.2.2.mono hb⟩
      case round =>
        obtain ⟨t, ht, rfl, HO⟩ := hrel
        by_cases hlt : j + t < 24
        · have htl : t < l.length := by have := HLL.out; omega
          obtain ⟨c, hc⟩ : ∃ c, l[t]? = some c := ⟨_, List.getElem?_eq_getElem htl⟩
          have hcell := HO.1.read t c hc
          have HC : Hid _ := hc
          clear hc htl
          go_wp2_with (at_builtin; refine wpList_append_own _ rfl (.tmp 29) (.tmp 33) 26 rfl base 5 i0 (.int .u8 0) 1 1 Try.underlying26 hi hz0 hz1 hz2 rfl (by decide) _ _ _ rfl (HO.2.1.alloc _) ⟨wr.heap.size, 0, none⟩ 1 1 [bv c] rfl rfl (cell_one_new _ _ _) ?c2 ?c3 ?c4 ?c5 ?_)
          case c2 => intro u hu; simp at hu; subst hu; rfl
          case c3 => unfold maxLen; omega
          case c4 => omega
          case c5 => have := HO.2.2.size; simp; omega
          · intro v' w1 hown' hgrow _
            have HO' := HO.step hb HC.out hown' hgrow
            clear hown' hgrow HO hcell
            go_wp2
            go_roundw
            case rel => exact ⟨t + 1, by omega, by go_num, HO'⟩
            case measure => simp [intOf]; omega
        · go_wp2
          go_ret
          have hll := HLL.out
          obtain ⟨h1, h2, h3⟩ := HO
          rw [List.take_of_length_le (by omega), show t = l.length by omega] at h2
          rw [← HL.out]
          exact ⟨_, rfl, h2, h3⟩

theorem appDec_any (base : Nat) (v : Value) (m : Nat) (xs : List Value) (N : Nat) (w : World) (hN : (N : Int) ≤ 9223372036854775807)
    (hown : w.ownsRow base 5 1 v m xs) (hb : base ≤ w.heap.size) (hm : m + 24 ≤ 70368744177664) :
    Calls Try.prog 13 #[v, .int .i64 N] w fun e w' => ∃ v', e = .returned v' ∧ w'.ownsRow base 5 1 v' (m + (Dig.dec N).length) (xs ++ (Dig.dec N).map bv) ∧ Below base w w' := by
  rcases Nat.eq_zero_or_pos N with h | h
  · exact appDec_zero base v m xs N w hN h.symm hown hb hm
  · exact appDec_pos base v m xs N w hN h hown hb hm
end Go.Proofs.Qxb6605335a
