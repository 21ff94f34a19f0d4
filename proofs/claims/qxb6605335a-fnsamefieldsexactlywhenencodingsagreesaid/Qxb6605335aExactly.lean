/-
  FnSameFieldsExactlyWhenEncodingsAgree: the walk.
-/
import Derived.Test.Qxb6605335aEncode
namespace Go.Proofs.Qxb6605335a.fnSameFieldsExactlyWhenEncodingsAgree
open Go.RowKit
set_option linter.unusedVariables false

theorem below_draws (w : World) (j : Nat) : Below w.heap.size w (w.drewN j) := ⟨rfl, rfl, rfl, Nat.le_refl _, fun _ _ => rfl⟩
theorem chain {w wk w1 : World} (h : Below w.heap.size w wk) (hb : Below wk.heap.size wk w1) : Below w.heap.size w w1 := h.trans (hb.mono h.size)
theorem small {ss : List ByteArray} (h : tot ss ≤ 1048576) : ∀ s ∈ ss, s.size ≤ 1048576 := by
  intro s hs
  have := tot_mem ss s hs
  omega
theorem Byts.below {w wr : World} {a : Option Addr} {n : Nat} {l : List UInt8} (h : Byts w a n l) (hb : Below w.heap.size w wr) : Byts wr a n l := by
  refine ⟨h.1, ?_⟩
  rcases h.2 with h0 | ⟨b, off, ha, hc⟩
  · exact .inl h0
  · refine .inr ⟨b, off, ha, fun i c hi => ?_⟩
    have h1 := hc i c hi
    exact (hb.cell (p := ⟨b, off + i, none⟩) (block_lt_of_cell h1)).trans h1
theorem beq_self (p q : Bool) (h : p = q) : (p == q) = true := by rw [h]; simp

set_option maxHeartbeats 2000000 in
theorem walk_in (a b : Option Addr) (n c m d : Nat) (ss ts : List ByteArray) (w : World) (hn : n ≤ maxLen) (hm : m ≤ maxLen) (h0 : a = none → n = 0) (g0 : b = none → m = 0) (hs : Strs w a n ss) (ht : Strs w b m ts) :
    Calls Try.prog 7 #[.slice a n c, .slice b m d] w fun e w' => e = .returned (.bool true) ∧ Below w.heap.size w w' := by
  have hni : (n : Int) ≤ 9223372036854775807 := by unfold maxLen at hn; omega
  have hmi : (m : Int) ≤ 9223372036854775807 := by unfold maxLen at hm; omega
  have H0 : Hid (a = none → n = 0) := h0
  have G0 : Hid (b = none → m = 0) := g0
  have HS : Hid (Strs w a n ss) := hs
  have HT : Hid (Strs w b m ts) := ht
  clear h0 g0 hn hm hs ht
  go_enter Try.func7, Try.ntmps7
  go_wp2_with fail
  refine (guard7 a b n c m d ss ts _ hni hmi HS.out HT.out).mono ?_
  rintro e w' (⟨rfl, rfl⟩ | ⟨rfl, rfl, hn20, hm20⟩)
  · go_wp2_with fail
    go_ret
    exact ⟨rfl, Below.refl _ _⟩
  · by_cases h64 : 65536 < (n : Int)
    · go_wp2_with fail
      go_ret
      exact ⟨rfl, Below.refl _ _⟩
    · by_cases m64 : 65536 < (m : Int)
      · go_wp2_with fail
        go_ret
        exact ⟨rfl, Below.refl _ _⟩
      · go_wp2_with fail
        refine (budget_any a n c ss _ _ hni (by omega) (by omega) HS.out).mono ?_
        rintro e w' ⟨r, rfl, rfl, hr1, hr2⟩
        by_cases hr : r < 0
        · go_wp2_with fail
          go_ret
          exact ⟨rfl, Below.refl _ _⟩
        · have hts : tot ss ≤ 1048576 := by omega
          have HTS : Hid (tot ss ≤ 1048576) := hts
          clear hr2 hts
          go_wp2_with fail
          refine (budget_any b m d ts _ _ hmi (by omega) hr1 HT.out).mono ?_
          rintro e w' ⟨q, rfl, rfl, hq1, hq2⟩
          by_cases hq : q < 0
          · go_wp2_with fail
            go_ret
            exact ⟨rfl, Below.refl _ _⟩
          · have htt : tot ts ≤ 1048576 := by omega
            have HTT : Hid (tot ts ≤ 1048576) := htt
            clear hq2 htt
            go_wp2_with fail
            refine (cloneKeep_any a n c ss _ hn20 H0.out HS.out).mono ?_
            rintro e w1 ⟨v1, rfl, ho1, hb1⟩
            obtain ⟨a1, c1, rfl, hs1, _⟩ := own_strs ho1
            have ht1 := HT.out.below hb1
            have HT1 : Hid (Strs w1 b m ts) := ht1
            clear ho1 ht1
            go_wp2_with fail
            refine (cloneKeep_any b m d ts _ hm20 G0.out HT1.out).mono ?_
            rintro e w2 ⟨v2, rfl, ho2, hb2⟩
            obtain ⟨a2, c2, rfl, ht2, _⟩ := own_strs ho2
            have hs2 := hs1.below hb2
            have hc2 := chain hb1 hb2
            clear ho2 hs1 hb1 hb2 HT1
            go_wp2_with fail
            refine (encode_any a1 n c1 ss _ (by omega) HTS.out hs2).mono ?_
            rintro e w3 ⟨v3, rfl, ho3, hb3⟩
            obtain ⟨a3, c3, rfl, hx3⟩ := own_byts ho3
            have hs3 := hs2.below hb3
            have ht3 := ht2.below hb3
            have hc3 := chain hc2 hb3
            clear ho3 hs2 ht2 hc2 hb3
            go_wp2_with fail
            refine (encode_any a2 m c2 ts _ (by omega) HTT.out ht3).mono ?_
            rintro e w4 ⟨v4, rfl, ho4, hb4⟩
            obtain ⟨a4, c4, rfl, hy4⟩ := own_byts ho4
            have hx4 := Byts.below hx3 hb4
            have hs4 := hs3.below hb4
            have ht4 := ht3.below hb4
            have hc4 := chain hc3 hb4
            clear ho4 hs3 ht3 hc3 hb4 hx3
            have hl1 : ((Dig.enc ss).length : Int) ≤ 9223372036854775807 := by have := enc_len ss; have := HTS.out; omega
            have hl2 : ((Dig.enc ts).length : Int) ≤ 9223372036854775807 := by have := enc_len ts; have := HTT.out; omega
            go_wp2_with fail
            refine (bsame_any _ _ _ _ _ _ _ _ _ hl1 hl2 hx4 hy4).mono ?_
            rintro e w5 ⟨rfl, j5, hw5⟩
            have hb5 : Below w4.heap.size w4 w5 := by rw [hw5]; exact below_draws _ _
            rw [Dig.enc_iff ss ts (small HTS.out) (small HTT.out)]
            have hs5 := hs4.below hb5
            have ht5 := ht4.below hb5
            have hc5 := chain hc4 hb5
            clear hw5 hb5 hs4 ht4 hc4 hx4 hy4 hl1 hl2
            go_wp2_with fail
            refine (zzsame_any _ _ _ _ _ _ ss ts _ hni hmi hs5 ht5).mono ?_
            rintro e w6 ⟨rfl, j6, hw6⟩
            have hb6 : Below w5.heap.size w5 w6 := by rw [hw6]; exact below_draws _ _
            have hs6 := hs5.below hb6
            have ht6 := ht5.below hb6
            have hc6 := chain hc5 hb6
            clear hw6 hb6 hs5 ht5 hc5
            go_wp2_with fail
            refine (zzsame_any _ _ _ _ _ _ ts ss _ hmi hni ht6 hs6).mono ?_
            rintro e w7 ⟨rfl, j7, hw7⟩
            have hb7 : Below w6.heap.size w6 w7 := by rw [hw7]; exact below_draws _ _
            have hc7 := chain hc6 hb7
            clear hw7 hb7 hs6 ht6 hc6
            rw [show decide (ts = ss) = decide (ss = ts) from by simp [eq_comm]]
            go_wp2_with fail
            go_ret
            exact ⟨by simp, hc7⟩
end Go.Proofs.Qxb6605335a.fnSameFieldsExactlyWhenEncodingsAgree
