/-
  encodeFields computes 'Dig.enc'.
-/
import Derived.Test.Qxb6605335aSameBytes
import Derived.Test.Qxb6605335aBudget
import Derived.Test.Qxb6605335aEnc
namespace Go.Proofs.Qxb6605335a
open Go.RowKit
set_option linter.unusedVariables false

/-- out owns the bytes l; what was there is as it was -/
def Enc (w wr : World) (o : Value) (l : List UInt8) : Prop := wr.ownsRow w.heap.size 5 1 o l.length (l.map bv) ∧ Below w.heap.size w wr

theorem Enc.push {w wr w1 : World} {o o' : Value} {l : List UInt8} {O : Obj} {c : UInt8} (h : Enc w wr o l)
    (ho : w1.ownsRow w.heap.size 5 1 o' (l.length + 1) (l.map bv ++ [bv c])) (hg : (wr.alloc O).grownBy w1 o.ownBlock) : Enc w w1 o' (l ++ [c]) := by
  have hs := h.2.size
  refine ⟨by simpa using ho, (h.2.alloc hs O).grown hg (by simp; omega) (fun k hk => (h.1.lt k hk).1)⟩
theorem enc_len (l : List ByteArray) : ((Dig.enc l).length : Int) ≤ 2 * tot l := by
  induction l with
  | nil => simp [Dig.enc, tot]
  | cons s t ih =>
    have h1 := Dig.dec_len s.size
    have h2 := Dig.data_len s
    simp only [Dig.enc, tot, List.length_append, List.length_cons, List.length_nil]
    omega
theorem tot_take_le (ss : List ByteArray) (k : Nat) : tot (ss.take k) ≤ tot ss := by
  have h := tot_append (ss.take k) (ss.drop k)
  rw [List.take_append_drop] at h
  have := tot_nonneg (ss.drop k)
  omega

set_option maxHeartbeats 2000000 in
theorem encode_any (a : Option Addr) (n c : Nat) (ss : List ByteArray) (w : World) (hn : (n : Int) ≤ 1048576) (htot : tot ss ≤ 1048576) (hs : Strs w a n ss) :
    Calls Try.prog 20 #[.slice a n c] w fun e w' => ∃ v', e = .returned v' ∧ Enc w w' v' (Dig.enc ss) := by
  obtain ⟨i0, hi, hz0, hz1, hz2⟩ := info_parts info5
  have HS : Hid (Strs w a n ss) := hs
  have HT : Hid (tot ss ≤ 1048576) := htot
  clear hs htot
  go_enter Try.func20, Try.ntmps20
  go_wp2_with (at_make; refine wpList_make_own _ rfl _ _ 26 rfl w.heap.size 5 i0 (.int .u8 0) 1 Try.underlying26 hi hz0 hz1 .i64 .i64 _ 0 rfl rfl rfl (by omega) (by unfold maxLen; omega) (Nat.le_refl _) ?_; intro w1 hown hgrow)
  have HC : Enc w w1 (.slice (some ⟨w.heap.size, 0, none⟩) 0 0) [] := ⟨hown, (Below.refl _ _).grown hgrow (Nat.le_refl _) (by simp)⟩
  clear hown hgrow
  go_loopw [3, 4, 5] (fun o i j wr => ∃ k : Nat, k ≤ n ∧ i = .int .i64 k ∧ Enc w wr o (Dig.enc (ss.take k))) (fun _ i _ _ => n - (intOf i).toNat)
  case atStart => exact ⟨0, by omega, rfl, HC⟩
  case round =>
    obtain ⟨k, hk, rfl, HK⟩ := hrel
    clear HC
    by_cases hlt : k < n
    · have hS := HS.out
      obtain ⟨s, es⟩ : ∃ s, ss[k]? = some s := ⟨_, List.getElem?_eq_getElem (by have := hS.1; omega)⟩
      obtain ⟨b, off, rfl, hc⟩ := hS.2.resolve_left (by omega)
      have hw := hc k s es
      have hcell : wr.cell? ⟨b, off + k, none⟩ = some (.string s) := Strs.cell (n := n) rfl hc HK.2 es
      have ES : Hid (ss[k]? = some s) := es
      have hEl := enc_len (ss.take k)
      have hTl := tot_take ss k s es
      have hTm := tot_take_le ss (k + 1)
      have hT := HT.out
      have hlen : ((Dig.enc (ss.take k)).length : Int) + 2 * s.size + 32 ≤ 2097152 := by omega
      have hss : (s.size : Int) ≤ 1048576 := by have := tot_nonneg (ss.take k); omega
      have HW : Hid (w.cell? ⟨b, off + k, none⟩ = some (.string s)) := hw
      clear es hc hS hEl hTl hTm hT hw
      go_wp2_with fail
      refine (appDec_any w.heap.size _ _ _ s.size _ (by omega) HK.1 HK.2.size (by omega)).mono ?_
      rintro e w2 ⟨v2, rfl, ho2, hb2⟩
      have HE2 : Enc w w2 v2 (Dig.enc (ss.take k) ++ Dig.dec s.size) := ⟨by simpa using ho2, HK.2.trans hb2⟩
      have hdl := Dig.dec_len s.size
      have hcell2 : w2.cell? ⟨b, off + k, none⟩ = some (.string s) := (HE2.2.cell (p := ⟨b, off + k, none⟩) (block_lt_of_cell HW.out)).trans HW.out
      clear ho2 hb2 HK hcell
      go_wp2_with (at_builtin; refine wpList_append_own _ rfl (.tmp 20) (.tmp 21) 26 rfl w.heap.size 5 i0 (.int .u8 0) 1 1 Try.underlying26 hi hz0 hz1 hz2 rfl (by decide) _ _ _ rfl (HE2.1.alloc _) ⟨w2.heap.size, 0, none⟩ 1 1 [bv 58] rfl rfl (cell_one_new _ _ _) ?c2 ?c3 ?c4 ?c5 ?_)
      case c2 => intro u hu; simp at hu; subst hu; rfl
      case c3 => unfold maxLen; simp; omega
      case c4 => simp; omega
      case c5 => have := HE2.2.size; simp; omega
      · intro v3 w3 ho3 hg3 _
        have HE3 : Enc w w3 v3 (Dig.enc (ss.take k) ++ Dig.dec s.size ++ [58]) := HE2.push (by simpa using ho3) hg3
        obtain ⟨E, hE⟩ : ∃ E, E = Dig.enc (ss.take k) ++ Dig.dec s.size ++ [58] := ⟨_, rfl⟩
        rw [← hE] at HE3
        have hEl : (E.length : Int) + s.size ≤ 2097152 := by rw [hE]; simp; omega
        have HE : Hid (E = Dig.enc (ss.take k) ++ Dig.dec s.size ++ [58]) := hE
        clear hE ho3 hg3 HE2 hcell2 hdl hlen
        go_wp2_with fail
        go_loopw [3, 5] (fun o i wr => ∃ j : Nat, j ≤ s.size ∧ i = .int .i64 j ∧ Enc w wr o (E ++ s.data.toList.take j)) (fun _ i _ => s.size - (intOf i).toNat)
        case atStart => exact ⟨0, by omega, rfl, by simpa using HE3⟩
        case round =>
          obtain ⟨j, hj, rfl, HJ⟩ := hrel
          have hcellj : wr.cell? ⟨b, off + k, none⟩ = some (.string s) := (HJ.2.cell (p := ⟨b, off + k, none⟩) (block_lt_of_cell HW.out)).trans HW.out
          clear HE3
          by_cases hjs : j < s.size
          · have hcj : s.data.toList[j]? = some s[j] := by rw [List.getElem?_eq_getElem (by rw [Dig.data_len]; exact hjs)]; rfl
            have HCJ : Hid (s.data.toList[j]? = some s[j]) := hcj
            have hll : (E ++ s.data.toList.take j).length = E.length + j := by rw [List.length_append, List.length_take, Dig.data_len]; omega
            have HLL : Hid ((E ++ s.data.toList.take j).length = E.length + j) := hll
            have ho := HJ.1
            rw [hll] at ho
            clear hcj hll
            go_wp2_with (at_builtin; refine wpList_append_own _ rfl (.tmp 32) (.tmp 39) 26 rfl w.heap.size 5 i0 (.int .u8 0) 1 1 Try.underlying26 hi hz0 hz1 hz2 rfl (by decide) _ _ _ rfl (ho.alloc _) ⟨wr.heap.size, 0, none⟩ 1 1 [bv s[j]] rfl rfl (cell_one_new _ _ _) ?d2 ?d3 ?d4 ?d5 ?_)
            case d2 => intro u hu; simp at hu; subst hu; rfl
            case d3 => unfold maxLen; omega
            case d4 => omega
            case d5 => have := HJ.2.size; simp; omega
            · intro v4 w4 ho4 hg4 _
              have HJ' : Enc w w4 v4 (E ++ s.data.toList.take (j + 1)) := by
                rw [List.take_add_one, HCJ.out, ← List.append_assoc]
                exact HJ.push (by rw [HLL.out]; simpa using ho4) hg4
              clear ho4 hg4 HJ ho hcellj
              go_wp2
              go_roundw
              case rel => exact ⟨j + 1, by omega, by go_num, HJ'⟩
              case measure => simp [intOf]; omega
          · obtain rfl : j = s.size := by omega
            rw [List.take_of_length_le (by rw [Dig.data_len]; exact Nat.le_refl _), HE.out, ← Dig.enc_take ss k s ES.out] at HJ
            go_wp2
            go_roundw
            case rel => exact ⟨k + 1, by omega, by go_num, HJ⟩
            case measure => simp [intOf]; omega
    · go_wp2
      go_ret
      rw [List.take_of_length_le (by have := HS.out.1; omega)] at HK
      exact ⟨_, rfl, HK⟩
end Go.Proofs.Qxb6605335a
