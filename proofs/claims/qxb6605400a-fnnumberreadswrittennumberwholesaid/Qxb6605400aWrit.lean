/-
  FnNumberReadsWrittenNumberWhole: the walk.
-/
import Derived.Test.Qxb6605400aNumW
import Derived.Test.Qxb6605400aWhole
import Derived.Laws.AppendOwnNone
namespace Go.Proofs.Qxb6605400a.fnNumberReadsWrittenNumberWhole
open Go.RowKit
set_option linter.unusedVariables false

theorem own_byts0 {w : World} {base : Nat} {v : Value} {n : Nat} {l : List UInt8} (h : w.ownsRow base 5 1 v n (l.map bv)) :
    ∃ a cap, v = .slice a n cap ∧ Byts w a n l ∧ (a = none → n = 0 ∧ cap = 0) := by
  have hl : l.length = n := by have := h.1; simpa using this
  rcases h.2 with ⟨rfl, rfl⟩ | ⟨g, cap, cur, rfl, r⟩
  · exact ⟨none, 0, rfl, ⟨hl, .inl rfl⟩, fun _ => ⟨rfl, rfl⟩⟩
  · refine ⟨_, cap, rfl, ⟨hl, ?_⟩, by simp⟩
    rcases Nat.eq_zero_or_pos n with h0 | h0
    · exact .inl h0
    · refine .inr ⟨g, 0, rfl, fun i s hs => ?_⟩
      have := h.cells rfl i (bv s) (by simp [hs])
      rwa [Addr.add_lit] at this

/-- 'append(buf, xs...)', buf the call's own, xs a slice of bytes, nil or not -/
theorem wpList_append_src {w : World} {ops : Array Oper} {rest : List Oper} {o : Oper} {ac : Act} {Q : Exit → Act → World → Prop} (hgd : o.guard = none) (s x : Operand)
    (ho : o.op = .call { callee := .builtin .append, args := #[s, x], argTypes := #[22, 22] })
    (base : Nat) (v : Value) (n : Nat) (xs : List Value) (hs : ac.eval s = v) (hown : w.ownsRow base 5 1 v n xs)
    (a : Option Addr) (m c : Nat) (l : List UInt8) (hx : ac.eval x = .slice a m c) (hsrc : Byts w a m l) (h0 : a = none → m = 0 ∧ c = 0)
    (h63 : n + m ≤ maxLen) (hbytes : (n + m) * 1 ≤ 140737488355328) (hbase : base ≤ w.heap.size)
    (h : ∀ v' w', w'.ownsRow base 5 1 v' (n + m) (xs ++ l.map bv) → w.grownBy w' v.ownBlock → wpList Try.prog ops Q rest (ac.put o.dst v') w') : wpList Try.prog ops Q (o :: rest) ac w := by
  obtain ⟨i0, hi, hz0, hz1, hz2⟩ := info_parts info5
  cases a with
  | none =>
    obtain ⟨rfl, rfl⟩ := h0 rfl
    have hl : l = [] := List.length_eq_zero_iff.1 hsrc.1
    subst hl
    refine wpList_append_own_none hgd s x 22 ho base 5 i0 1 Try.underlying22 hi v n xs hs hown hx (h v w ?_ (World.grownBy.refl w _))
    simpa using hown
  | some ad =>
    refine wpList_append_own w hgd s x 22 ho base 5 i0 (.int .u8 0) 1 1 Try.underlying22 hi hz0 hz1 hz2 rfl (by decide) v n xs hs hown ad m c (l.map bv) hx (by have := hsrc.1; simpa using this) ?_ ?_ h63 hbytes hbase (fun v' w' h1 h2 _ => h v' w' h1 h2)
    · intro j u hu
      rcases hsrc.2 with hm | ⟨b, off, hab, hc⟩
      · have hl : l = [] := List.length_eq_zero_iff.1 (by rw [hsrc.1]; exact hm)
        subst hl; simp at hu
      · obtain rfl : ad = ⟨b, off, none⟩ := by simpa using hab
        rw [Addr.add_lit]
        rw [List.getElem?_map, Option.map_eq_some_iff] at hu
        obtain ⟨c', hc', rfl⟩ := hu
        exact hc j c' hc'
    · intro u hu
      obtain ⟨c', _, rfl⟩ := List.mem_map.1 hu
      rfl

set_option maxHeartbeats 1000000 in
theorem guard_big (a b : Option Addr) (n c m d : Nat) (x f ex : Int) (wf we : Bool) (w : World) (hn : (n : Int) ≤ 9223372036854775807) (hm : (m : Int) ≤ 9223372036854775807) (h : 1048576 < (n : Int) + m) :
    Calls Try.prog 9 #[.slice a n c, .int .i64 x, .int .u64 f, .int .i32 ex, .bool wf, .bool we, .slice b m d] w fun e w' => e = .returned (.bool false) ∧ w' = w := by
  by_cases h1 : 1048576 < (n : Int)
  · go_enter Try.func9, Try.ntmps9
    go_wp2
    go_ret
    exact ⟨rfl, rfl⟩
  · by_cases h2 : 1048576 < (m : Int)
    · go_enter Try.func9, Try.ntmps9
      go_wp2
      go_ret
      exact ⟨rfl, rfl⟩
    · go_enter Try.func9, Try.ntmps9
      go_wp2
      go_ret
      exact ⟨rfl, rfl⟩
set_option maxHeartbeats 1000000 in
theorem guard_small (a b : Option Addr) (n c m d : Nat) (x f ex : Int) (wf we : Bool) (w : World) (h : (n : Int) + m ≤ 1048576) :
    Calls Try.prog 9 #[.slice a n c, .int .i64 x, .int .u64 f, .int .i32 ex, .bool wf, .bool we, .slice b m d] w fun e w' => e = .returned (.bool true) ∧ w' = w := by
  go_enter Try.func9, Try.ntmps9
  go_wp2
  go_ret
  exact ⟨rfl, rfl⟩

theorem ok_nil (wf we : Bool) : Num.OkTail wf we [] := by intro c hc; simp at hc
theorem ok_mk {wf we : Bool} {t : List UInt8} {c : UInt8} (h : t[0]? = some c) (h1 : Num.isD c = false) (h2 : we = false → ¬ (c.toNat : Int) = 101 ∧ ¬ (c.toNat : Int) = 69) (h3 : wf = false → we = false → ¬ (c.toNat : Int) = 46) : Num.OkTail wf we t := by
  intro d hd
  have e : d = c := by rw [List.head?_eq_getElem?, h] at hd; simpa using hd.symm
  subst e
  refine ⟨h1, fun g => ⟨fun e => (h2 g).1 (by rw [e]; rfl), fun e => (h2 g).2 (by rw [e]; rfl)⟩, fun g g' e => h3 g g' (by rw [e]; rfl)⟩

set_option maxRecDepth 20000 in
set_option maxHeartbeats 4000000 in
theorem walk_in (a b : Option Addr) (n c m d : Nat) (lp lt : List UInt8) (x : Int) (f : Nat) (ex : Int) (wf we : Bool) (w : World)
    (hn : n ≤ maxLen) (hm : m ≤ maxLen) (h0 : a = none → n = 0) (g0 : b = none → m = 0) (hs : Byts w a n lp) (ht : Byts w b m lt)
    (hx1 : -9223372036854775808 ≤ x) (hx2 : x ≤ 9223372036854775807) (hf : (f : Int) ≤ 18446744073709551615) (he1 : -2147483648 ≤ ex) (he2 : ex ≤ 2147483647) :
    Calls Try.prog 4 #[.slice a n c, .int .i64 x, .int .u64 f, .int .i32 ex, .bool wf, .bool we, .slice b m d] w fun e w' => e = .returned (.bool true) ∧ Below w.heap.size w w' := by
  have hni : (n : Int) ≤ 9223372036854775807 := by unfold maxLen at hn; omega
  have hmi : (m : Int) ≤ 9223372036854775807 := by unfold maxLen at hm; omega
  have H0 : Hid (a = none → n = 0) := h0
  have G0 : Hid (b = none → m = 0) := g0
  have HS : Hid (Byts w a n lp) := hs
  have HT : Hid (Byts w b m lt) := ht
  clear h0 g0 hn hm hs ht
  by_cases hbig : 1048576 < (n : Int) + m
  · go_enter Try.func4, Try.ntmps4
    go_wp2_with (go_at_call 9; refine (guard_big _ _ _ _ _ _ _ _ _ _ _ _ hni hmi hbig).mono ?_; rintro e w' ⟨rfl, rfl⟩)
    go_ret
    exact ⟨rfl, Below.refl _ _⟩
  · by_cases hn5 : 524288 < (n : Int)
    · go_enter Try.func4, Try.ntmps4
      go_wp2_with (go_at_call 9; refine (guard_small _ _ _ _ _ _ _ _ _ _ _ _ (by omega)).mono ?_; rintro e w' ⟨rfl, rfl⟩)
      go_ret
      exact ⟨rfl, Below.refl _ _⟩
    · by_cases hm5 : 524288 < (m : Int)
      · go_enter Try.func4, Try.ntmps4
        go_wp2_with (go_at_call 9; refine (guard_small _ _ _ _ _ _ _ _ _ _ _ _ (by omega)).mono ?_; rintro e w' ⟨rfl, rfl⟩)
        go_ret
        exact ⟨rfl, Below.refl _ _⟩
      · go_enter Try.func4, Try.ntmps4
        go_upto_if 38 with (go_at_call 9; refine (guard_small _ _ _ _ _ _ _ _ _ _ _ _ (by omega)).mono ?_; rintro e w' ⟨rfl, rfl⟩)
        go_cut [15] from 21 to 67 (fun t wx => wx = w' ∧ Hid (Num.OkTail wf we lt))
        case first =>
          by_cases hm0 : 0 < m
          · have hT := HT.out
            obtain ⟨x0, ex0⟩ : ∃ x0, lt[0]? = some x0 := ⟨_, List.getElem?_eq_getElem (by have := hT.1; omega)⟩
            obtain ⟨bb, off, rfl, hc⟩ := hT.2.resolve_left (by omega)
            have hcell : w'.cell? ⟨bb, off, none⟩ = some (bv x0) := by simpa using hc 0 x0 ex0
            have EX : Hid (lt[0]? = some x0) := ex0
            clear ex0 hc hT
            by_cases d1 : 48 ≤ (x0.toNat : Int)
            · by_cases d2 : (x0.toNat : Int) ≤ 57
              · go_wp2_with fail
                go_ret
                exact ⟨rfl, Below.refl _ _⟩

              · cases we
                · by_cases k101 : (x0.toNat : Int) = 101
                  · have q101 : ((x0.toNat : Int) == 101) = true := by simp [k101]
                    clear k101
                    go_wp2_with fail
                    go_ret
                    exact ⟨rfl, Below.refl _ _⟩

                  · have q101 : ((x0.toNat : Int) == 101) = false := by simp [k101]
                    by_cases k69 : (x0.toNat : Int) = 69
                    · have q69 : ((x0.toNat : Int) == 69) = true := by simp [k69]
                      clear k69
                      go_wp2_with fail
                      go_ret
                      exact ⟨rfl, Below.refl _ _⟩

                    · have q69 : ((x0.toNat : Int) == 69) = false := by simp [k69]
                      cases wf
                      · by_cases k46 : (x0.toNat : Int) = 46
                        · have q46 : ((x0.toNat : Int) == 46) = true := by simp [k46]
                          clear k46
                          go_wp2_with fail
                          go_ret
                          exact ⟨rfl, Below.refl _ _⟩

                        · have q46 : ((x0.toNat : Int) == 46) = false := by simp [k46]
                          go_wp2_with fail
                          go_meet
                          case rel => exact ⟨rfl, ok_mk EX.out (isD_gt (by omega)) (fun _ => ⟨k101, k69⟩) (fun _ _ => k46)⟩

                      · go_wp2_with fail
                        go_meet
                        case rel => exact ⟨rfl, ok_mk EX.out (isD_gt (by omega)) (fun _ => ⟨k101, k69⟩) (fun h => by cases h)⟩

                · cases wf
                  · go_wp2_with fail
                    go_meet
                    case rel => exact ⟨rfl, ok_mk EX.out (isD_gt (by omega)) (fun h => by cases h) (fun _ h => by cases h)⟩

                  · go_wp2_with fail
                    go_meet
                    case rel => exact ⟨rfl, ok_mk EX.out (isD_gt (by omega)) (fun h => by cases h) (fun _ h => by cases h)⟩

            · cases we
              · by_cases k101 : (x0.toNat : Int) = 101
                · have q101 : ((x0.toNat : Int) == 101) = true := by simp [k101]
                  clear k101
                  go_wp2_with fail
                  go_ret
                  exact ⟨rfl, Below.refl _ _⟩

                · have q101 : ((x0.toNat : Int) == 101) = false := by simp [k101]
                  by_cases k69 : (x0.toNat : Int) = 69
                  · have q69 : ((x0.toNat : Int) == 69) = true := by simp [k69]
                    clear k69
                    go_wp2_with fail
                    go_ret
                    exact ⟨rfl, Below.refl _ _⟩

                  · have q69 : ((x0.toNat : Int) == 69) = false := by simp [k69]
                    cases wf
                    · by_cases k46 : (x0.toNat : Int) = 46
                      · have q46 : ((x0.toNat : Int) == 46) = true := by simp [k46]
                        clear k46
                        go_wp2_with fail
                        go_ret
                        exact ⟨rfl, Below.refl _ _⟩

                      · have q46 : ((x0.toNat : Int) == 46) = false := by simp [k46]
                        go_wp2_with fail
                        go_meet
                        case rel => exact ⟨rfl, ok_mk EX.out (isD_lt (by omega)) (fun _ => ⟨k101, k69⟩) (fun _ _ => k46)⟩

                    · go_wp2_with fail
                      go_meet
                      case rel => exact ⟨rfl, ok_mk EX.out (isD_lt (by omega)) (fun _ => ⟨k101, k69⟩) (fun h => by cases h)⟩

              · cases wf
                · go_wp2_with fail
                  go_meet
                  case rel => exact ⟨rfl, ok_mk EX.out (isD_lt (by omega)) (fun h => by cases h) (fun _ h => by cases h)⟩

                · go_wp2_with fail
                  go_meet
                  case rel => exact ⟨rfl, ok_mk EX.out (isD_lt (by omega)) (fun h => by cases h) (fun _ h => by cases h)⟩

          · have hlt : lt = [] := List.length_eq_zero_iff.1 (by have := HT.out.1; omega)
            have HLT : Hid (lt = []) := hlt
            clear hlt
            go_wp2_with fail
            go_meet
            case rel => exact ⟨rfl, by unfold Hid; rw [HLT.out]; exact ok_nil wf we⟩
        case rest =>
          obtain ⟨rfl, HOK⟩ := hcut
          obtain ⟨i0, hi, hz0, hz1, hz2⟩ := info_parts info5
          go_wp2_with fail
          refine (clone_any a n c lp _ (by omega) H0.out HS.out).mono ?_
          rintro e w1 ⟨v1, rfl, ho1, hb1⟩
          obtain ⟨a1, c1, rfl, hs1, gz1⟩ := own_byts0 ho1
          have HT1 : Hid (Byts w1 b m lt) := HT.out.below hb1
          have HS1 : Hid (Byts w1 a1 n lp) := hs1
          have HZ1 : Hid (a1 = none → n = 0 ∧ c1 = 0) := gz1
          clear ho1 hs1 gz1
          go_wp2_with fail
          refine (clone_any b m d lt _ (by omega) G0.out HT1.out).mono ?_
          rintro e w2 ⟨v2, rfl, ho2, hb2⟩
          obtain ⟨a2, c2, rfl, ht2, gz2⟩ := own_byts0 ho2
          have HT2 : Hid (Byts w2 a2 m lt) := ht2
          have HS2 : Hid (Byts w2 a1 n lp) := HS1.out.below hb2
          have HZ2 : Hid (a2 = none → m = 0 ∧ c2 = 0) := gz2
          have HC2 : Hid (Below wc.heap.size wc w2) := chain hb1 hb2
          have HLP : Hid (lp.length = n) := HS.out.1
          have HLT : Hid (lt.length = m) := HT.out.1
          clear ho2 ht2 gz2 hb1 hb2 HT1 HS1 H0 G0 HS HT
          go_upto_region 18 with (at_make; refine wpList_make_own _ rfl _ _ 22 rfl w2.heap.size 5 i0 (.int .u8 0) 1 Try.underlying22 hi hz0 hz1 .i64 .i64 _ (n + m + 64) rfl rfl (by omega) (by rw [hz2]; omega) (by unfold maxLen; omega) (Nat.le_refl _) ?_; intro w3 hown hgrow)
          have HE3 : Enc w2 w3 (.slice (some ⟨w2.heap.size, 0, none⟩) 0 (n + m + 64)) [] := ⟨hown, (Below.refl _ _).grown hgrow (Nat.le_refl _) (by simp)⟩
          have HS3 : Hid (Byts w3 a1 n lp) := HS2.out.below HE3.2
          clear hown hgrow
          go_upto_region 19 with (at_builtin; refine wpList_append_src rfl (.tmp 79) (.tmp 80) rfl w2.heap.size _ 0 [] rfl HE3.1 a1 n c1 lp rfl HS3.out HZ1.out (by unfold maxLen; omega) (by omega) HE3.2.size ?_; intro v4 w4 ho4 hg4)
          have HE4 : Enc w2 w4 v4 lp := ⟨by rw [HLP.out]; simpa using ho4, HE3.2.grown hg4 HE3.2.size (fun k hk => (HE3.1.lt k hk).1)⟩
          obtain ⟨a4, c4, rfl, _, _⟩ := own_byts0 HE4.1
          clear ho4 hg4 HE3 HS3
          have hlpn : (lp.length : Int) ≤ 524288 := by have := HLP.out; omega
          go_wp2_with fail
          refine (appI_any w2.heap.size _ _ _ x _ hx1 hx2 HE4.1 HE4.2.size (by omega)).mono ?_
          rintro e w5 ⟨v5, rfl, ho5, hb5⟩
          have HE5 : Enc w2 w5 v5 (lp ++ sdec x) := ⟨by simpa using ho5, HE4.2.trans hb5⟩
          clear ho5 hb5 HE4
          have hsl := sdec_len x
          have hl5 : ((lp ++ sdec x).length : Int) ≤ 524400 := by simp; omega
          go_upto_if 87 with fail
          go_cut [16] from 21 to 93 (fun o wx => Enc w2 wx o (lp ++ sdec x ++ Num.fracT wf f))
          case first =>
            cases wf
            · go_wp2_with fail
              go_meet
              case rel => simpa [Num.fracT] using HE5
            · go_wp2_with (at_builtin; refine wpList_append_own _ rfl (.tmp 88) (.tmp 89) 22 rfl w2.heap.size 5 i0 (.int .u8 0) 1 1 Try.underlying22 hi hz0 hz1 hz2 rfl (by decide) _ _ _ rfl (HE5.1.alloc _) ⟨w5.heap.size, 0, none⟩ 1 1 [bv 46] rfl rfl (cell_one_new _ _ _) ?c2 ?c3 ?c4 ?c5 ?_)
              case c2 => intro u hu; simp at hu; subst hu; rfl
              case c3 => unfold maxLen; omega
              case c4 => omega
              case c5 => have := HE5.2.size; simp; omega
              · intro v6 w6 ho6 hg6 _
                have hb6 : Below w2.heap.size w2 w6 := (HE5.2.alloc HE5.2.size _).grown hg6 (by have := HE5.2.size; simp; omega) (fun k hk => (HE5.1.lt k hk).1)
                clear hg6
                go_wp2_with fail
                refine (appU_any w2.heap.size _ _ _ f _ hf ho6 hb6.size (by omega)).mono ?_
                rintro e w7 ⟨v7, rfl, ho7, hb7⟩
                have HE7 : Enc w2 w7 v7 (lp ++ sdec x ++ Num.fracT true f) := ⟨by simpa [Num.fracT, Nat.add_assoc, Nat.add_comm 1] using ho7, hb6.trans hb7⟩
                clear ho6 ho7 hb6 hb7 HE5
                go_wp2_with fail
                go_meet
                case rel => exact HE7
          case rest =>
            have HE8 := hcut
            clear hcut HE5
            have hfl : (Num.fracT wf f).length ≤ 21 := by have h1 := Num.dec_len f; unfold Num.fracT; split <;> simp; omega
            have hl8 : ((lp ++ sdec x ++ Num.fracT wf f).length : Int) ≤ 524500 := by rw [List.length_append]; omega
            go_upto_if 94 with fail
            go_cut [16] from 21 to 101 (fun o wx => Enc w2 wx o (lp ++ sdec x ++ Num.fracT wf f ++ Num.expT we ex))
            case first =>
              cases we
              · go_wp2_with fail
                go_meet
                case rel => simpa [Num.expT] using HE8
              · go_wp2_with (at_builtin; refine wpList_append_own _ rfl (.tmp 95) (.tmp 96) 22 rfl w2.heap.size 5 i0 (.int .u8 0) 1 1 Try.underlying22 hi hz0 hz1 hz2 rfl (by decide) _ _ _ rfl (HE8.1.alloc _) ⟨wc.heap.size, 0, none⟩ 1 1 [bv 101] rfl rfl (cell_one_new _ _ _) ?e2 ?e3 ?e4 ?e5 ?_)
                case e2 => intro u hu; simp at hu; subst hu; rfl
                case e3 => unfold maxLen; omega
                case e4 => omega
                case e5 => have := HE8.2.size; simp; omega
                · intro v6 w6 ho6 hg6 _
                  have hb6 : Below w2.heap.size w2 w6 := (HE8.2.alloc HE8.2.size _).grown hg6 (by have := HE8.2.size; simp; omega) (fun k hk => (HE8.1.lt k hk).1)
                  clear hg6
                  go_wp2_with fail
                  refine (appI_any w2.heap.size _ _ _ ex _ (by omega) (by omega) ho6 hb6.size (by omega)).mono ?_
                  rintro e w7 ⟨v7, rfl, ho7, hb7⟩
                  have HE9 : Enc w2 w7 v7 (lp ++ sdec x ++ Num.fracT wf f ++ Num.expT true ex) := ⟨by simpa [Num.expT, Nat.add_assoc, Nat.add_comm 1] using ho7, hb6.trans hb7⟩
                  clear ho6 ho7 hb6 hb7 HE8
                  go_wp2_with fail
                  go_meet
                  case rel => exact HE9
            case rest =>
              have HE10 := hcut
              clear hcut HE8
              have hel : (Num.expT we ex).length ≤ 22 := by have h1 := sdec_len ex; unfold Num.expT; split <;> simp; omega
              rw [show lp ++ sdec x ++ Num.fracT wf f ++ Num.expT we ex = lp ++ Num.text x wf f we ex by simp [Num.text]] at HE10
              obtain ⟨T, hT⟩ : ∃ T, T = Num.text x wf f we ex := ⟨_, rfl⟩
              have htl : T.length ≤ 64 := by rw [hT]; simp [Num.text]; omega
              rw [← hT] at HE10
              have HTT : Hid (T = Num.text x wf f we ex) := hT
              clear hT hel hfl hl8 hsl hl5
              obtain ⟨a5, c5, rfl, _, _⟩ := own_byts0 HE10.1
              have HT3 : Hid (Byts wc a2 m lt) := HT2.out.below HE10.2
              have hlT : (lp ++ T).length = lp.length + T.length := List.length_append
              go_upto_region 28 with fail
              go_upto_region 29 with (at_builtin; refine wpList_append_src rfl (.tmp 104) (.tmp 105) rfl w2.heap.size _ _ _ rfl HE10.1 a2 m c2 lt rfl HT3.out HZ2.out (by unfold maxLen; omega) (by omega) HE10.2.size ?_; intro v8 w8 ho8 hg8)
              have HE11 : w8.ownsRow w2.heap.size 5 1 v8 (lp.length + T.length + m) ((lp ++ (T ++ lt)).map bv) := by simpa using ho8
              have hb8 : Below w2.heap.size w2 w8 := HE10.2.grown hg8 HE10.2.size (fun k hk => (HE10.1.lt k hk).1)
              obtain ⟨a6, c6, rfl, hy8, _⟩ := own_byts0 HE11
              have HY8 : Hid (Byts w8 a6 (lp.length + T.length + m) (lp ++ (T ++ lt))) := hy8
              have HB8 : Hid (Below w2.heap.size w2 w8) := hb8
              clear HE11 hb8 hy8 ho8 hg8 HE10 HT3 hlT
              have hlp' : ((lp.length + T.length + m : Nat) : Int) ≤ 1048640000 := by omega
              go_wp2_with fail
              refine (zznumber_any a6 _ c6 (lp ++ (T ++ lt)) lp.length _ hlp' (by omega) HY8.out).mono ?_
              rintro e w9 ⟨rfl, rfl⟩
              have e := Num.nN_any lp lt x wf we f ex (by omega) HOK.out
              rw [← HTT.out] at e
              rw [e]
              clear e
              go_wp2_with fail
              go_ret
              exact ⟨by simp, chain HC2.out HB8.out⟩

end Go.Proofs.Qxb6605400a.fnNumberReadsWrittenNumberWhole
