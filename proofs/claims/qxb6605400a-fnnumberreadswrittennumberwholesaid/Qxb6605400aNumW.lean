/-
  number computes 'Num.nN'.
-/
import Derived.Test.Qxb6605400aNumber
namespace Go.Proofs.Qxb6605400a
open Go.RowKit
set_option linter.unusedVariables false

/-- does the list hold k at p? -/
def eqAt (l : List UInt8) (p : Nat) (k : UInt8) : Bool := decide (l[p]? = some k)
theorem eqAt_none {l : List UInt8} {p : Nat} {k : UInt8} (h : l[p]? = none) : eqAt l p k = false := by simp [eqAt, h]
theorem eqAt_yes {l : List UInt8} {p : Nat} {k x : UInt8} (h : l[p]? = some x) (hx : (x.toNat : Int) = k.toNat) : eqAt l p k = true := by
  have : x = k := UInt8.toNat_inj.1 (by omega)
  simp [eqAt, h, this]
theorem eqAt_no {l : List UInt8} {p : Nat} {k x : UInt8} (h : l[p]? = some x) (hx : ¬ (x.toNat : Int) = k.toNat) : eqAt l p k = false := by
  have : x ≠ k := fun e => hx (by rw [e])
  simp [eqAt, h, this]
theorem eqAt_out {l : List UInt8} {p : Nat} {k : UInt8} (h : eqAt l p k = true) : l[p]? = some k := by simpa [eqAt] using h
theorem eqAt_not {l : List UInt8} {p : Nat} {k : UInt8} (h : eqAt l p k = false) : l[p]? ≠ some k := by simpa [eqAt] using h

/-- does the list hold j or k at p? -/
def orAt (l : List UInt8) (p : Nat) (j k : UInt8) : Bool := decide (l[p]? = some j ∨ l[p]? = some k)
theorem orAt_none {l : List UInt8} {p : Nat} {j k : UInt8} (h : l[p]? = none) : orAt l p j k = false := by simp [orAt, h]
theorem orAt_l {l : List UInt8} {p : Nat} {j k x : UInt8} (h : l[p]? = some x) (hx : (x.toNat : Int) = j.toNat) : orAt l p j k = true := by
  have : x = j := UInt8.toNat_inj.1 (by omega)
  simp [orAt, h, this]
theorem orAt_r {l : List UInt8} {p : Nat} {j k x : UInt8} (h : l[p]? = some x) (hx : (x.toNat : Int) = k.toNat) : orAt l p j k = true := by
  have : x = k := UInt8.toNat_inj.1 (by omega)
  simp [orAt, h, this]
theorem orAt_no {l : List UInt8} {p : Nat} {j k x : UInt8} (h : l[p]? = some x) (hx : ¬ (x.toNat : Int) = j.toNat) (hy : ¬ (x.toNat : Int) = k.toNat) : orAt l p j k = false := by
  have h1 : x ≠ j := fun e => hx (by rw [e])
  have h2 : x ≠ k := fun e => hy (by rw [e])
  simp [orAt, h, h1, h2]
theorem orAt_out {l : List UInt8} {p : Nat} {j k : UInt8} (h : orAt l p j k = true) : l[p]? = some j ∨ l[p]? = some k := by simpa [orAt] using h
theorem orAt_not {l : List UInt8} {p : Nat} {j k : UInt8} (h : orAt l p j k = false) : ¬ (l[p]? = some j ∨ l[p]? = some k) := by simpa [orAt] using h
theorem at_lt {l : List UInt8} {p n : Nat} {k : UInt8} (hl : l.length = n) (h : l[p]? = some k) : p < n := by
  have := (List.getElem?_eq_some_iff.1 h).1; omega

theorem digits_at (a : Option Addr) (n c : Nat) (l : List UInt8) (i : Nat) (p : Int) (w : World) (hn : (n : Int) ≤ 9223372036854775807) (hi : (i : Int) ≤ 9223372036854775807) (hp : p = (i : Int)) (hs : Byts w a n l) :
    Calls Try.prog 15 #[.slice a n c, .int .i64 p] w fun e w' => e = .returned (.int .i64 (Num.dEnd l i)) ∧ w' = w := by
  subst hp; exact digits_any a n c l i w hn hi hs

set_option maxRecDepth 20000 in
set_option maxHeartbeats 4000000 in
theorem number_any (a : Option Addr) (n c : Nat) (l : List UInt8) (i : Nat) (w : World) (hn : (n : Int) ≤ 1048640000) (hi : (i : Int) ≤ 9223372036854775807) (hs : Byts w a n l) :
    Calls Try.prog 12 #[.slice a n c, .int .i64 i] w fun e w' => e = .returned (.tuple #[.int .i64 (Num.nN l i).1, .bool (Num.nN l i).2]) ∧ w' = w := by
  have HS : Hid (Byts w a n l) := hs
  clear hs
  go_enter Try.func12, Try.ntmps12
  go_upto_region 1 with fail
  go_cut [18] from 8 to 18 (fun t wx => t = .bool (eqAt l i 45) ∧ wx = w)
  case first =>
    by_cases hlt : i < n
    · have hS := HS.out
      obtain ⟨x, ex⟩ : ∃ x, l[i]? = some x := ⟨_, List.getElem?_eq_getElem (by have := hS.1; omega)⟩
      obtain ⟨b, off, rfl, hc⟩ := hS.2.resolve_left (by omega)
      have hcell := hc i x ex
      have EX : Hid (l[i]? = some x) := ex
      clear ex hc hS
      by_cases hk : (x.toNat : Int) = 45
      · have hb : ((x.toNat : Int) == 45) = true := by simp [hk]
        have HK : Hid ((x.toNat : Int) = 45) := hk
        clear hk
        go_wp2_with fail
        go_meet
        case rel => exact ⟨by rw [eqAt_yes (k := 45) EX.out HK.out], rfl⟩
      · have hb : ((x.toNat : Int) == 45) = false := by simp [hk]
        go_wp2_with fail
        go_meet
        case rel => exact ⟨by rw [eqAt_no (k := 45) EX.out hk], rfl⟩
    · go_wp2_with fail
      go_meet
      case rel => exact ⟨by rw [eqAt_none (List.getElem?_eq_none_iff.2 (by have := HS.out.1; omega))], rfl⟩
  case rest =>
    obtain ⟨rfl, rfl⟩ := hcut
    go_upto_if 18 with fail
    go_cut [1] from 8 to 20 (fun t wx => ∃ p : Nat, (p : Int) ≤ 9223372036854775807 ∧ t = .int .i64 p ∧ Hid (Num.nN l i = Num.nI l p) ∧ wx = wc)
    case first =>
      cases hb : eqAt l i 45
      · go_wp2_with fail
        go_meet
        case rel => exact ⟨i, hi, rfl, Num.nN_pos (eqAt_not hb), rfl⟩
      · have hlt := at_lt HS.out.1 (eqAt_out hb)
        go_wp2_with fail
        go_meet
        case rel => exact ⟨i + 1, by omega, by go_num, Num.nN_neg (eqAt_out hb), rfl⟩
    case rest =>
      obtain ⟨p, hp, rfl, HP, rfl⟩ := hcut
      go_upto_region 3 with fail
      go_cut [31] from 8 to 31 (fun t wx => t = .bool (eqAt l p 48) ∧ wx = wc)
      case first =>
        by_cases hlt : p < n
        · have hS := HS.out
          obtain ⟨x, ex⟩ : ∃ x, l[p]? = some x := ⟨_, List.getElem?_eq_getElem (by have := hS.1; omega)⟩
          obtain ⟨b, off, rfl, hc⟩ := hS.2.resolve_left (by omega)
          have hcell := hc p x ex
          have EX : Hid (l[p]? = some x) := ex
          clear ex hc hS
          by_cases hk : (x.toNat : Int) = 48
          · have hb : ((x.toNat : Int) == 48) = true := by simp [hk]
            have HK : Hid ((x.toNat : Int) = 48) := hk
            clear hk
            go_wp2_with fail
            go_meet
            case rel => exact ⟨by rw [eqAt_yes (k := 48) EX.out HK.out], rfl⟩
          · have hb : ((x.toNat : Int) == 48) = false := by simp [hk]
            go_wp2_with fail
            go_meet
            case rel => exact ⟨by rw [eqAt_no (k := 48) EX.out hk], rfl⟩
        · go_wp2_with fail
          go_meet
          case rel => exact ⟨by rw [eqAt_none (List.getElem?_eq_none_iff.2 (by have := HS.out.1; omega))], rfl⟩
      case rest =>
        obtain ⟨rfl, rfl⟩ := hcut
        go_upto_if 31 with fail
        go_cut [1] from 8 to 55 (fun t wx => ∃ q : Nat, (q : Int) ≤ 9223372036854775807 ∧ t = .int .i64 q ∧ Hid (Num.nN l i = Num.nF l q) ∧ wx = wc)
        case first =>
          cases hb : eqAt l p 48
          · by_cases hlt : p < n
            · have hS := HS.out
              obtain ⟨x, ex⟩ : ∃ x, l[p]? = some x := ⟨_, List.getElem?_eq_getElem (by have := hS.1; omega)⟩
              obtain ⟨b, off, rfl, hc⟩ := hS.2.resolve_left (by omega)
              have hcell := hc p x ex
              have EX : Hid (l[p]? = some x) := ex
              have HB : Hid (eqAt l p 48 = false) := hb
              have h48 : ¬ (x.toNat : Int) = 48 := by
                intro e
                have := eqAt_yes (k := 48) ex e
                rw [this] at hb; simp at hb
              clear ex hc hS
              by_cases h1 : 49 ≤ (x.toNat : Int)
              · by_cases h2 : (x.toNat : Int) ≤ 57
                · have hdl := Num.dEnd_le l p (by have := HS.out.1; omega)
                  have hdn : (Num.dEnd l p : Int) ≤ n := by have := HS.out.1; omega
                  have HDL : Hid (Num.dEnd l p ≤ l.length) := hdl
                  clear hdl
                  go_wp2_with (go_at_call 15; refine (digits_at _ _ _ l p _ _ (by omega) (by omega) (by omega) HS.out).mono ?_; rintro e w' ⟨rfl, rfl⟩)
                  go_meet
                  case rel => exact ⟨Num.dEnd l p, by omega, rfl, HP.out.trans (Num.nI_dig EX.out (fun e => eqAt_not HB.out (by rw [EX.out, e])) (isD_in (by omega) h2)), rfl⟩
                · go_wp2_with fail
                  go_ret2
                  have e := HP.out.trans (Num.nI_bad EX.out (isD_gt (by omega)))
                  exact ⟨ret_ib (by rw [e]) (by rw [e]), rfl⟩
              · go_wp2_with fail
                go_ret2
                have e := HP.out.trans (Num.nI_bad EX.out (isD_lt (by omega)))
                exact ⟨ret_ib (by rw [e]) (by rw [e]), rfl⟩
            · go_wp2_with fail
              go_ret2
              have e := HP.out.trans (Num.nI_none (List.getElem?_eq_none_iff.2 (by have := HS.out.1; omega)))
              exact ⟨ret_ib (by rw [e]) (by rw [e]), rfl⟩
          · have hlt := at_lt HS.out.1 (eqAt_out hb)
            go_wp2_with fail
            go_meet
            case rel => exact ⟨p + 1, by omega, by go_num, HP.out.trans (Num.nI_zero (eqAt_out hb)), rfl⟩
        case rest =>
          obtain ⟨q, hq, rfl, HQ, rfl⟩ := hcut
          clear HP hp
          go_upto_region 8 with fail
          go_cut [66] from 8 to 66 (fun t wx => t = .bool (eqAt l q 46) ∧ wx = wc)
          case first =>
            by_cases hlt : q < n
            · have hS := HS.out
              obtain ⟨x, ex⟩ : ∃ x, l[q]? = some x := ⟨_, List.getElem?_eq_getElem (by have := hS.1; omega)⟩
              obtain ⟨b, off, rfl, hc⟩ := hS.2.resolve_left (by omega)
              have hcell := hc q x ex
              have EX : Hid (l[q]? = some x) := ex
              clear ex hc hS
              by_cases hk : (x.toNat : Int) = 46
              · have hb : ((x.toNat : Int) == 46) = true := by simp [hk]
                have HK : Hid ((x.toNat : Int) = 46) := hk
                clear hk
                go_wp2_with fail
                go_meet
                case rel => exact ⟨by rw [eqAt_yes (k := 46) EX.out HK.out], rfl⟩
              · have hb : ((x.toNat : Int) == 46) = false := by simp [hk]
                go_wp2_with fail
                go_meet
                case rel => exact ⟨by rw [eqAt_no (k := 46) EX.out hk], rfl⟩
            · go_wp2_with fail
              go_meet
              case rel => exact ⟨by rw [eqAt_none (List.getElem?_eq_none_iff.2 (by have := HS.out.1; omega))], rfl⟩
          case rest =>
            obtain ⟨rfl, rfl⟩ := hcut
            go_upto_if 66 with fail
            go_cut [1] from 8 to 76 (fun t wx => ∃ r : Nat, (r : Int) ≤ 9223372036854775807 ∧ t = .int .i64 r ∧ Hid (Num.nN l i = Num.nE l r) ∧ wx = wc)
            case first =>
              cases hb : eqAt l q 46
              · go_wp2_with fail
                go_meet
                case rel => exact ⟨q, hq, rfl, HQ.out.trans (by unfold Num.nF; rw [if_neg (eqAt_not hb)]), rfl⟩
              · have hlt := at_lt HS.out.1 (eqAt_out hb)
                have hdl := Num.dEnd_le l (q + 1) (by have := HS.out.1; omega)
                have hdn : (Num.dEnd l (q + 1) : Int) ≤ n := by have := HS.out.1; omega
                have HB : Hid (eqAt l q 46 = true) := hb
                clear hdl
                by_cases hj : Num.dEnd l (q + 1) = q + 1
                · have hjb : ((Num.dEnd l (q + 1) : Int) == (q : Int) + 1) = true := by rw [hj]; simp
                  have HJ : Hid (Num.dEnd l (q + 1) = q + 1) := hj
                  clear hj
                  go_wp2_with (go_at_call 15; refine (digits_at _ _ _ l (q + 1) _ _ (by omega) (by omega) (by omega) HS.out).mono ?_; rintro e w' ⟨rfl, rfl⟩)
                  go_ret2
                  have e := HQ.out.trans (Num.nF_dot (eqAt_out HB.out))
                  rw [if_pos HJ.out] at e
                  exact ⟨ret_ib (by rw [e, HJ.out]) (by rw [e]), rfl⟩
                · have hjb : ((Num.dEnd l (q + 1) : Int) == (q : Int) + 1) = false := by simp; omega
                  go_wp2_with (go_at_call 15; refine (digits_at _ _ _ l (q + 1) _ _ (by omega) (by omega) (by omega) HS.out).mono ?_; rintro e w' ⟨rfl, rfl⟩)
                  go_meet
                  case rel =>
                    have e := HQ.out.trans (Num.nF_dot (eqAt_out HB.out))
                    rw [if_neg hj] at e
                    exact ⟨Num.dEnd l (q + 1), by omega, rfl, e, rfl⟩
            case rest =>
              obtain ⟨r, hr, rfl, HR, rfl⟩ := hcut
              clear HQ hq
              go_upto_region 13 with fail
              go_cut [94] from 8 to 94 (fun t wx => t = .bool (orAt l r 101 69) ∧ wx = wc)
              case first =>
                by_cases hlt : r < n
                · have hS := HS.out
                  obtain ⟨x, ex⟩ : ∃ x, l[r]? = some x := ⟨_, List.getElem?_eq_getElem (by have := hS.1; omega)⟩
                  obtain ⟨b, off, rfl, hc⟩ := hS.2.resolve_left (by omega)
                  have hcell := hc r x ex
                  have EX : Hid (l[r]? = some x) := ex
                  clear ex hc hS
                  by_cases hk : (x.toNat : Int) = 101
                  · have hb : ((x.toNat : Int) == 101) = true := by simp [hk]
                    have HK : Hid ((x.toNat : Int) = 101) := hk
                    clear hk
                    go_wp2_with fail
                    go_meet
                    case rel => exact ⟨by rw [orAt_l (j := 101) EX.out HK.out], rfl⟩
                  · have hb : ((x.toNat : Int) == 101) = false := by simp [hk]
                    have HJ : Hid (¬ (x.toNat : Int) = 101) := hk
                    clear hk
                    by_cases hk : (x.toNat : Int) = 69
                    · have hb2 : ((x.toNat : Int) == 69) = true := by simp [hk]
                      have HK : Hid ((x.toNat : Int) = 69) := hk
                      clear hk
                      go_wp2_with fail
                      go_meet
                      case rel => exact ⟨by rw [orAt_r (k := 69) EX.out HK.out], rfl⟩
                    · have hb2 : ((x.toNat : Int) == 69) = false := by simp [hk]
                      go_wp2_with fail
                      go_meet
                      case rel => exact ⟨by rw [orAt_no (j := 101) (k := 69) EX.out HJ.out hk], rfl⟩
                · go_wp2_with fail
                  go_meet
                  case rel => exact ⟨by rw [orAt_none (List.getElem?_eq_none_iff.2 (by have := HS.out.1; omega))], rfl⟩
              case rest =>
                obtain ⟨rfl, rfl⟩ := hcut
                cases hb : orAt l r 101 69
                · go_wp2_with fail
                  go_ret2
                  have e : Num.nN l i = (r, true) := HR.out.trans (by unfold Num.nE; rw [if_neg (orAt_not hb)])
                  exact ⟨ret_ib (by rw [e]) (by rw [e]), rfl⟩
                · have hlt : r < n := by rcases orAt_out hb with h | h <;> exact at_lt HS.out.1 h
                  have HE : Hid (Num.nN l i = Num.nX l (Num.sgn l (r + 1))) := HR.out.trans (by unfold Num.nE; rw [if_pos (orAt_out hb)])
                  clear hb HR
                  go_upto_region 15 with fail
                  go_cut [114] from 8 to 114 (fun t wx => t = .bool (orAt l (r + 1) 43 45) ∧ wx = wc)
                  case first =>
                    by_cases hlt : (r + 1) < n
                    · have hS := HS.out
                      obtain ⟨x, ex⟩ : ∃ x, l[(r + 1)]? = some x := ⟨_, List.getElem?_eq_getElem (by have := hS.1; omega)⟩
                      obtain ⟨b, off, rfl, hc⟩ := hS.2.resolve_left (by omega)
                      have hcell := hc (r + 1) x ex
                      have EX : Hid (l[(r + 1)]? = some x) := ex
                      clear ex hc hS
                      by_cases hk : (x.toNat : Int) = 43
                      · have hb : ((x.toNat : Int) == 43) = true := by simp [hk]
                        have HK : Hid ((x.toNat : Int) = 43) := hk
                        clear hk
                        go_wp2_with fail
                        go_meet
                        case rel => exact ⟨by rw [orAt_l (j := 43) EX.out HK.out], rfl⟩
                      · have hb : ((x.toNat : Int) == 43) = false := by simp [hk]
                        have HJ : Hid (¬ (x.toNat : Int) = 43) := hk
                        clear hk
                        by_cases hk : (x.toNat : Int) = 45
                        · have hb2 : ((x.toNat : Int) == 45) = true := by simp [hk]
                          have HK : Hid ((x.toNat : Int) = 45) := hk
                          clear hk
                          go_wp2_with fail
                          go_meet
                          case rel => exact ⟨by rw [orAt_r (k := 45) EX.out HK.out], rfl⟩
                        · have hb2 : ((x.toNat : Int) == 45) = false := by simp [hk]
                          go_wp2_with fail
                          go_meet
                          case rel => exact ⟨by rw [orAt_no (j := 43) (k := 45) EX.out HJ.out hk], rfl⟩
                    · go_wp2_with fail
                      go_meet
                      case rel => exact ⟨by rw [orAt_none (List.getElem?_eq_none_iff.2 (by have := HS.out.1; omega))], rfl⟩
                  case rest =>

                    obtain ⟨rfl, rfl⟩ := hcut
                    go_upto_if 114 with fail
                    go_cut [1] from 8 to 116 (fun t wx => ∃ q : Nat, q ≤ n ∧ t = .int .i64 q ∧ Hid (Num.sgn l (r + 1) = q) ∧ wx = wc)
                    case first =>
                      cases hb : orAt l (r + 1) 43 45
                      · go_wp2_with fail
                        go_meet
                        case rel => exact ⟨r + 1, by omega, by go_num, by unfold Hid Num.sgn; rw [if_neg (orAt_not hb)], rfl⟩
                      · have hlt2 : r + 1 < n := by rcases orAt_out hb with h | h <;> exact at_lt HS.out.1 h
                        go_wp2_with fail
                        go_meet
                        case rel => exact ⟨r + 1 + 1, by omega, by go_num, by unfold Hid Num.sgn; rw [if_pos (orAt_out hb)], rfl⟩
                    case rest =>
                      obtain ⟨q, hq, rfl, HG, rfl⟩ := hcut
                      have hdl := Num.dEnd_le l q (by have := HS.out.1; omega)
                      have hdn : (Num.dEnd l q : Int) ≤ n := by have := HS.out.1; omega
                      have e : Num.nN l i = Num.nX l q := by rw [HE.out, HG.out]
                      have EE : Hid (Num.nN l i = Num.nX l q) := e
                      clear hdl e HE HG
                      by_cases hj : Num.dEnd l q = q
                      · have hjb : ((Num.dEnd l q : Int) == (q : Int)) = true := by rw [hj]; simp
                        have HJ : Hid (Num.dEnd l q = q) := hj
                        clear hj
                        go_wp2_with (go_at_call 15; refine (digits_at _ _ _ l q _ _ (by omega) (by omega) (by omega) HS.out).mono ?_; rintro e w' ⟨rfl, rfl⟩)
                        go_ret2
                        have e := EE.out
                        unfold Num.nX at e
                        exact ⟨ret_ib (by rw [e]) (by rw [e, decide_eq_false (by rw [HJ.out]; simp)]), rfl⟩
                      · have hjb : ((Num.dEnd l q : Int) == (q : Int)) = false := by simp; omega
                        go_wp2_with (go_at_call 15; refine (digits_at _ _ _ l q _ _ (by omega) (by omega) (by omega) HS.out).mono ?_; rintro e w' ⟨rfl, rfl⟩)
                        go_ret2
                        have e := EE.out
                        unfold Num.nX at e
                        exact ⟨ret_ib (by rw [e]) (by rw [e, decide_eq_true hj]), rfl⟩

theorem zznumber_any (a : Option Addr) (n c : Nat) (l : List UInt8) (i : Nat) (w : World) (hn : (n : Int) ≤ 1048640000) (hi : (i : Int) ≤ 9223372036854775807) (hs : Byts w a n l) :
    Calls Try.prog 7 #[.slice a n c, .int .i64 i] w fun e w' => e = .returned (.tuple #[.int .i64 (Num.nN l i).1, .bool (Num.nN l i).2]) ∧ w' = w := by
  go_enter Try.func7, Try.ntmps7
  go_wp2_with (go_at_call 12; refine (number_any _ _ _ l _ _ hn hi hs).mono ?_; rintro e w' ⟨rfl, rfl⟩)
  go_ret2
  exact ⟨rfl, rfl⟩
end Go.Proofs.Qxb6605400a
