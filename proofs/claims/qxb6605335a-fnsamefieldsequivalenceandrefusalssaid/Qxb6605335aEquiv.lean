/-
  FnSameFieldsEquivalenceAndRefusals: the walk.
-/
import Derived.Test.Qxb6605335aBudget
import Derived.Test.Qxb6605335aBump
namespace Go.Proofs.Qxb6605335a.fnSameFieldsEquivalenceAndRefusals
open Go.RowKit
set_option linter.unusedVariables false

theorem strs_of_own {w : World} {base : Nat} {a : Option Addr} {n c : Nat} {ss : List ByteArray} (h : w.ownsRow base 9 1 (.slice a n c) n (ss.map Value.string)) : Strs w a n ss := by
  obtain ⟨a', c', e, hs, _⟩ := own_strs h
  simp at e
  obtain ⟨rfl, rfl⟩ := e
  exact hs

theorem zzsame_below (a b : Option Addr) (n m c d : Nat) (ss ts : List ByteArray) (w : World) (hn : (n : Int) ≤ 9223372036854775807) (hm : (m : Int) ≤ 9223372036854775807) (h1 : Strs w a n ss) (h2 : Strs w b m ts) :
    Calls Try.prog 21 #[.slice a n c, .slice b m d] w fun e w' => e = .returned (.bool (decide (ss = ts))) ∧ Below w.heap.size w w' := by
  refine (zzsame_any a b n m c d ss ts w hn hm h1 h2).mono ?_
  rintro e w' ⟨rfl, j, rfl⟩
  exact ⟨rfl, ⟨rfl, rfl, rfl, Nat.le_refl _, fun _ _ => rfl⟩⟩
theorem chain {w wk w1 : World} (h : Below w.heap.size w wk) (hb : Below wk.heap.size wk w1) : Below w.heap.size w w1 := h.trans (hb.mono h.size)
theorem ne_longer (ss : List ByteArray) : decide (ss = ss ++ [ByteArray.empty]) = false := by
  rw [decide_eq_false_iff_not]; intro h
  have := congrArg List.length h
  simp at this
theorem ne_longer' (ss : List ByteArray) : decide (ss ++ [ByteArray.empty] = ss) = false := by
  rw [decide_eq_false_iff_not]; intro h
  have := congrArg List.length h
  simp at this
theorem ne_set {ss : List ByteArray} {k : Nat} {s t : ByteArray} (hs : ss[k]? = some s) (ht : t ≠ s) : decide (ss = ss.set k t) = false := by
  rw [decide_eq_false_iff_not]; intro h
  have hk : k < ss.length := (List.getElem?_eq_some_iff.1 hs).1
  have e : (ss.set k t)[k]? = some t := by rw [List.getElem?_set_self hk]
  rw [← h, hs] at e
  simp at e
  exact ht e.symm
theorem ne_set' {ss : List ByteArray} {k : Nat} {s t : ByteArray} (hs : ss[k]? = some s) (ht : t ≠ s) : decide (ss.set k t = ss) = false := by
  have := ne_set hs ht
  rw [decide_eq_false_iff_not] at this ⊢
  exact fun h => this h.symm
theorem ne_x (s t : ByteArray) (ht : t.size = 1) : s ++ t ≠ s := by
  intro h
  have := congrArg ByteArray.size h
  rw [ByteArray.size_append] at this
  omega

set_option maxHeartbeats 2000000 in
theorem walk_in (a : Option Addr) (n c : Nat) (ss : List ByteArray) (i : Int) (w : World) (hn : n ≤ maxLen) (h0 : a = none → n = 0) (hs : Strs w a n ss) (hi1 : -9223372036854775808 ≤ i) (hi2 : i ≤ 9223372036854775807) :
    Calls Try.prog 8 #[.slice a n c, .int .i64 i] w fun e w' => e = .returned (.bool true) ∧ Below w.heap.size w w' := by
  have hni : (n : Int) ≤ 9223372036854775807 := by unfold maxLen at hn; omega
  have H0 : Hid (a = none → n = 0) := h0
  have HS : Hid (Strs w a n ss) := hs
  clear h0 hn hs
  obtain ⟨i0, hi, hz0, hz1, hz2⟩ := info_parts info9
  go_enter Try.func8, Try.ntmps8
  go_wp2_with fail
  refine (guard8 a n c i ss _ hni HS.out).mono ?_
  rintro e w' (⟨rfl, rfl⟩ | ⟨rfl, rfl, hn20⟩)
  · go_wp2_with fail
    go_ret
    exact ⟨rfl, Below.refl _ _⟩
  · by_cases h64 : 65536 < (n : Int)
    · go_wp2_with fail
      go_ret
      exact ⟨rfl, Below.refl _ _⟩
    · go_wp2_with fail
      refine (budget_any a n c ss _ _ hni (by omega) (by omega) HS.out).mono ?_
      rintro e w' ⟨r, rfl, rfl, hr1, hr2⟩
      by_cases hr : r < 0
      · go_wp2_with fail
        go_ret
        exact ⟨rfl, Below.refl _ _⟩
      · have htot : tot ss ≤ 1048576 := by omega
        have HTOT : Hid (tot ss ≤ 1048576) := htot
        clear hr2 htot
        go_wp2_with fail
        refine (cloneKeep_any a n c ss _ hn20 H0.out HS.out).mono ?_
        rintro e w1 ⟨v1, rfl, ho1, hb1⟩
        obtain ⟨a1, c1, rfl, hs1, hz⟩ := own_strs ho1
        have HZ : Hid (a1 = none → n = 0) := hz
        clear hz
        go_wp2_with fail
        refine (clone_any a1 n c1 ss _ hn20 hs1).mono ?_
        rintro e w2 ⟨rfl, ho2, hb2⟩
        have ho1b := own_below ho1 hb2
        have hs1b := hs1.below hb2
        have hs2 := strs_of_own ho2
        clear ho1 hs1
        have hc2 := chain hb1 hb2
        clear hb1 hb2 ho1b ho2
        go_wp2_with fail
        refine (zzsame_below _ _ _ _ _ _ ss ss _ hni hni hs1b hs2).mono ?_
        rintro e w3 ⟨rfl, hb3⟩
        have hA := hs1b.below hb3
        have hC := hs2.below hb3
        have hc3 := chain hc2 hb3
        clear hs1b hs2 hb3 hc2
        go_wp2_with fail
        refine (zzsame_below _ _ _ _ _ _ ss ss _ hni hni hC hA).mono ?_
        rintro e w4 ⟨rfl, hb4⟩
        have hA4 := hA.below hb4
        have hc4 := chain hc3 hb4
        clear hA hC hb4 hc3
        go_wp2_with fail
        refine (clone_any a1 n c1 ss _ hn20 hA4).mono ?_
        rintro e w5 ⟨rfl, ho5, hb5⟩
        have hA5 := hA4.below hb5
        have hc5 := chain hc4 hb5
        have hsz5 := hb5.size
        have hlt5 := ho5.lt
        go_wp2_with (at_builtin; refine wpList_append_own _ rfl (.tmp 34) (.tmp 35) 31 rfl w4.heap.size 9 i0 (.string ByteArray.empty) 1 16 Try.underlying31 hi hz0 hz1 hz2 rfl (by decide) _ _ _ rfl (ho5.alloc _) ⟨w5.heap.size, 0, none⟩ 1 1 [.string ByteArray.empty] rfl rfl (cell_one_new _ _ _) ?c2 ?c3 ?c4 ?c5 ?_)
        case c2 => intro u hu; simp at hu; subst hu; rfl
        case c3 => unfold maxLen; omega
        case c4 => omega
        case c5 => simp; omega
        · intro v6 w6 ho6 hg6 _
          have hb6 : Below w4.heap.size w4 w6 := (hb5.alloc hsz5 _).grown hg6 (by simp; omega) (fun k hk => (hlt5 k hk).1)
          have hA6 := hA4.below hb6
          have hc6 := chain hc4 hb6
          rw [show ss.map Value.string ++ [Value.string ByteArray.empty] = (ss ++ [ByteArray.empty]).map Value.string by simp] at ho6
          obtain ⟨a6, c6, rfl, hs6, _⟩ := own_strs ho6
          clear hA4 hA5 hc4 hc5 hsz5 hlt5 ho5 hb5 ho6 hg6 hb6
          have hn1 : ((n + 1 : Nat) : Int) ≤ 9223372036854775807 := by omega
          go_wp2_with fail
          refine (zzsame_below _ _ _ _ _ _ ss _ _ hni hn1 hA6 hs6).mono ?_
          rintro e w7 ⟨rfl, hb7⟩
          rw [ne_longer]
          have hA7 := hA6.below hb7
          have hs7 := hs6.below hb7
          have hc7 := chain hc6 hb7
          clear hA6 hs6 hc6 hb7
          go_wp2_with fail
          refine (zzsame_below _ _ _ _ _ _ _ ss _ hn1 hni hs7 hA7).mono ?_
          rintro e w8 ⟨rfl, hb8⟩
          rw [ne_longer']
          have hA8 := hA7.below hb8
          have hc8 := chain hc7 hb8
          clear hA7 hs7 hc7 hb8 hn1
          by_cases hin : 0 ≤ i ∧ i < (n : Int)
          · obtain ⟨k, rfl⟩ : ∃ k : Nat, i = (k : Int) := ⟨i.toNat, by omega⟩
            obtain ⟨hin1, hin2⟩ := hin
            have hkn : k < n := by omega
            obtain ⟨s, es⟩ : ∃ s, ss[k]? = some s := ⟨_, List.getElem?_eq_getElem (by have := hA8.1; omega)⟩
            have hsz : (s.size : Int) ≤ 1048576 := Int.le_trans (tot_mem ss s (List.mem_of_getElem? es)) HTOT.out
            have ES : Hid (ss[k]? = some s) := es
            clear es
            go_wp2_with fail
            refine (clone_any a1 n c1 ss _ hn20 hA8).mono ?_
            rintro e w9 ⟨rfl, ho9, hb9⟩
            have hcell9 : w9.cell? ⟨w8.heap.size, k, none⟩ = some (.string s) := by
              rw [ho9.cellAt k (by omega), List.getElem?_map, ES.out]; rfl
            have hfr9 := ho9.frozenAt k
            have ho9' := (ho9.stored k (.string (s ++ ⟨#[120]⟩))).1
            rw [← List.map_set] at ho9'
            have hs9 := strs_of_own ho9'
            have hb9' := hb9.setCell (p := ⟨w8.heap.size, k, none⟩) (Nat.le_refl _) (.string (s ++ ⟨#[120]⟩))
            have hA9 := hA8.below hb9'
            have hc9 := chain hc8 hb9'
            have hnx : s ++ ⟨#[120]⟩ ≠ s := ne_x s _ rfl
            have n1 := ne_set ES.out hnx
            have n2 := ne_set' ES.out hnx
            have N1 : Hid (decide (ss = ss.set k (s ++ ⟨#[120]⟩)) = false) := n1
            have N2 : Hid (decide (ss.set k (s ++ ⟨#[120]⟩) = ss) = false) := n2
            clear n1 n2 hnx
            have HS9 : Hid (Strs (w9.setCell ⟨w8.heap.size, k, none⟩ (.string (s ++ ⟨#[120]⟩))) (some ⟨w8.heap.size, 0, none⟩) n (ss.set k (s ++ ⟨#[120]⟩))) := hs9
            have HA9 : Hid (Strs (w9.setCell ⟨w8.heap.size, k, none⟩ (.string (s ++ ⟨#[120]⟩))) a1 n ss) := hA9
            have HC9 : Hid (Below w'.heap.size w' (w9.setCell ⟨w8.heap.size, k, none⟩ (.string (s ++ ⟨#[120]⟩)))) := hc9
            clear hs9 hA9 hc9 ho9' hb9' ho9 hb9 hA8 hc8
            go_wp2_with fail
            refine (zzsame_below _ _ _ _ _ _ ss _ _ hni hni HA9.out HS9.out).mono ?_
            rintro e w10 ⟨rfl, hb10⟩
            rw [N1.out]
            have hA10 := HA9.out.below hb10
            have hs10 := HS9.out.below hb10
            have hc10 := chain HC9.out hb10
            clear HA9 HS9 HC9 hb10 hcell9 hfr9
            go_wp2_with fail
            refine (zzsame_below _ _ _ _ _ _ _ ss _ hni hni hs10 hA10).mono ?_
            rintro e w11 ⟨rfl, hb11⟩
            rw [N2.out]
            have hA11 := hA10.below hb11
            have hc11 := chain hc10 hb11
            clear hA10 hs10 hc10 hb11 N1 N2
            obtain ⟨b1, o1, rfl, hcA⟩ := hA11.2.resolve_left (by omega)
            have hcell11 := hcA k s ES.out
            clear hcA
            by_cases hpos : 0 < s.size
            · go_wp2_with fail
              refine (clone_any _ n c1 ss _ hn20 hA11).mono ?_
              rintro e w12 ⟨rfl, ho12, hb12⟩
              have hA12 := hA11.below hb12
              have hcell12 : w12.cell? ⟨b1, o1 + k, none⟩ = some (.string s) := (hb12.cell (p := ⟨b1, o1 + k, none⟩) (block_lt_of_cell hcell11)).trans hcell11
              clear hcell11
              go_wp2_with fail
              refine (bump_any s _ hpos hsz).mono ?_
              rintro e w13 ⟨t, rfl, hts, htz, hb13⟩
              have ho13 := own_below ho12 hb13
              have hb13' : Below w11.heap.size w11 w13 := chain hb12 hb13
              have hcell13 : w13.cell? ⟨w11.heap.size, k, none⟩ = some (.string s) := by
                rw [ho13.cellAt k (by omega), List.getElem?_map, ES.out]; rfl
              have hfr13 := ho13.frozenAt k
              have ho14 := (ho13.stored k (.string t)).1
              rw [← List.map_set] at ho14
              have hs14 := strs_of_own ho14
              have hb14 := hb13'.setCell (p := ⟨w11.heap.size, k, none⟩) (Nat.le_refl _) (.string t)
              have hA14 := hA11.below hb14
              have hc14 := chain hc11 hb14
              have N1 : Hid (decide (ss = ss.set k t) = false) := ne_set ES.out hts
              have N2 : Hid (decide (ss.set k t = ss) = false) := ne_set' ES.out hts
              have HS14 : Hid (Strs (w13.setCell ⟨w11.heap.size, k, none⟩ (.string t)) (some ⟨w11.heap.size, 0, none⟩) n (ss.set k t)) := hs14
              have HA14 : Hid (Strs (w13.setCell ⟨w11.heap.size, k, none⟩ (.string t)) (some ⟨b1, o1, none⟩) n ss) := hA14
              have HC14 : Hid (Below w'.heap.size w' (w13.setCell ⟨w11.heap.size, k, none⟩ (.string t))) := hc14
              clear hs14 hA14 hc14 hb14 ho14 hb13' ho13 hb13 hA12 ho12 hb12 hcell12 hts htz hA11 hc11
              go_wp2_with fail
              refine (zzsame_below _ _ _ _ _ _ ss _ _ hni hni HA14.out HS14.out).mono ?_
              rintro e w15 ⟨rfl, hb15⟩
              rw [N1.out]
              have hA15 := HA14.out.below hb15
              have hs15 := HS14.out.below hb15
              have hc15 := chain HC14.out hb15
              clear HA14 HS14 HC14 hb15 hcell13 hfr13
              go_wp2_with fail
              refine (zzsame_below _ _ _ _ _ _ _ ss _ hni hni hs15 hA15).mono ?_
              rintro e w16 ⟨rfl, hb16⟩
              rw [N2.out]
              have hc16 := chain hc15 hb16
              clear hA15 hs15 hc15 hb16
              go_wp2_with fail
              go_ret
              exact ⟨rfl, hc16⟩
            · go_wp2_with fail
              go_ret
              exact ⟨rfl, hc11⟩
          · by_cases hi0 : 0 ≤ i
            · have hge : (n : Int) ≤ i := by omega
              go_wp2_with fail
              go_ret
              exact ⟨rfl, hc8⟩
            · go_wp2_with fail
              go_ret
              exact ⟨rfl, hc8⟩
end Go.Proofs.Qxb6605335a.fnSameFieldsEquivalenceAndRefusals
