/-
  fieldBudgetLeft and the two length guards over slices of strings.
-/
import Derived.Test.Qxb6605335aClone
namespace Go.Proofs.Qxb6605335a
open Go.RowKit
set_option linter.unusedVariables false

/-- 16 bytes a field plus its length -/
def tot : List ByteArray → Int
  | [] => 0
  | s :: t => 16 + s.size + tot t
theorem tot_nonneg (l : List ByteArray) : 16 * (l.length : Int) ≤ tot l := by
  induction l with
  | nil => simp [tot]
  | cons s t ih => simp [tot]; omega
theorem tot_append (l m : List ByteArray) : tot (l ++ m) = tot l + tot m := by
  induction l with
  | nil => simp [tot]
  | cons s t ih => simp [tot, ih]; omega
theorem tot_take (ss : List ByteArray) (k : Nat) (s : ByteArray) (h : ss[k]? = some s) : tot (ss.take (k + 1)) = tot (ss.take k) + (16 + s.size) := by
  rw [List.take_add_one, h, tot_append]; simp [tot]
theorem tot_mem (ss : List ByteArray) (s : ByteArray) (h : s ∈ ss) : (s.size : Int) ≤ tot ss := by
  induction ss with
  | nil => simp at h
  | cons t l ih =>
    have := tot_nonneg l
    rcases List.mem_cons.1 h with h | h
    · subst h; simp [tot]; omega
    · have := ih h; simp [tot]; omega

set_option maxHeartbeats 1000000 in
theorem budget_any (a : Option Addr) (n c : Nat) (ss : List ByteArray) (B : Int) (w : World) (hn : (n : Int) ≤ 9223372036854775807) (hB0 : 0 ≤ B) (hB : B ≤ 1048576) (hs : Strs w a n ss) :
    Calls Try.prog 17 #[.slice a n c, .int .i64 B] w fun e w' => ∃ r : Int, e = .returned (.int .i64 r) ∧ w' = w ∧ r ≤ B ∧ (r < 0 ∨ tot ss + r = B) := by
  have HS : Hid (Strs w a n ss) := hs
  clear hs
  go_enter Try.func17, Try.ntmps17
  go_wp2
  go_loop [1, 5] (fun b i => ∃ (k : Nat) (x : Int), k ≤ n ∧ 0 ≤ x ∧ x ≤ B ∧ i = .int .i64 k ∧ b = .int .i64 x ∧ Hid (tot (ss.take k) + x = B)) (fun _ i => n - (intOf i).toNat)
  case atStart => exact ⟨0, B, by omega, by omega, by omega, rfl, rfl, by unfold Hid; simp [tot]⟩
  case round =>
    obtain ⟨k, x, hk, hx0, hxB, rfl, rfl, HX⟩ := hrel
    by_cases hlt : k < n
    · have hS := HS.out
      obtain ⟨s, es⟩ : ∃ s, ss[k]? = some s := ⟨_, List.getElem?_eq_getElem (by have := hS.1; omega)⟩
      obtain ⟨b, off, rfl, hc⟩ := hS.2.resolve_left (by omega)
      have hcell := hc k s es
      have ES : Hid (ss[k]? = some s) := es
      clear es hc hS
      by_cases h16 : x < 16
      · go_wp2
        go_ret
        exact ⟨_, rfl, rfl, by omega, .inl (by omega)⟩
      · by_cases hsz : x - 16 < (s.size : Int)
        · go_wp2
          go_ret
          exact ⟨_, rfl, rfl, by omega, .inl (by omega)⟩
        · go_wp2
          go_round
          case rel => exact ⟨k + 1, _, by omega, by omega, by omega, by go_num, rfl, by have := HX.out; unfold Hid; rw [tot_take _ _ _ ES.out]; omega⟩
          case measure => simp [intOf]; omega
    · go_wp2
      go_ret
      have h1 := HX.out
      rw [List.take_of_length_le (by have := HS.out.1; omega)] at h1
      exact ⟨x, rfl, rfl, hxB, .inr h1⟩

set_option maxHeartbeats 1000000 in
theorem guard8 (a : Option Addr) (n c : Nat) (i : Int) (ss : List ByteArray) (w : World) (hn : (n : Int) ≤ 9223372036854775807) (hs : Strs w a n ss) :
    Calls Try.prog 22 #[.slice a n c, .int .i64 i] w fun e w' => (e = .returned (.bool false) ∧ w' = w) ∨ (e = .returned (.bool true) ∧ w' = w ∧ n ≤ 1048576) := by
  have HS : Hid (Strs w a n ss) := hs
  clear hs
  by_cases hbig : 1048576 < (n : Int)
  · go_enter Try.func22, Try.ntmps22
    go_wp2
    go_ret
    exact .inl ⟨rfl, rfl⟩
  · go_enter Try.func22, Try.ntmps22
    go_wp2
    go_loop [5, 6] (fun z i => ∃ (k : Nat) (x : Int), k ≤ n ∧ 0 ≤ x ∧ x ≤ 1048576 ∧ i = .int .i64 k ∧ z = .int .i64 x) (fun _ i => n - (intOf i).toNat)
    case atStart => exact ⟨0, n, by omega, by omega, by omega, rfl, rfl⟩
    case round =>
      obtain ⟨k, x, hk, hx0, hxB, rfl, rfl⟩ := hrel
      by_cases hlt : k < n
      · have hS := HS.out
        obtain ⟨s, es⟩ : ∃ s, ss[k]? = some s := ⟨_, List.getElem?_eq_getElem (by have := hS.1; omega)⟩
        obtain ⟨b, off, rfl, hc⟩ := hS.2.resolve_left (by omega)
        have hcell := hc k s es
        clear es hc hS
        by_cases h16 : 1048576 < (s.size : Int)
        · go_wp2
          go_ret
          exact .inl ⟨rfl, rfl⟩
        · by_cases hsz : 1048576 < x + (s.size : Int)
          · go_wp2
            go_ret
            exact .inl ⟨rfl, rfl⟩
          · go_wp2
            go_round
            case rel => exact ⟨k + 1, _, by omega, by omega, by omega, by go_num, rfl⟩
            case measure => simp [intOf]; omega
      · go_wp2
        go_ret
        exact .inr ⟨rfl, rfl, by omega⟩

set_option maxHeartbeats 1000000 in
theorem guard7 (a b : Option Addr) (n c m d : Nat) (ss ts : List ByteArray) (w : World) (hn : (n : Int) ≤ 9223372036854775807) (hm : (m : Int) ≤ 9223372036854775807) (hs : Strs w a n ss) (ht : Strs w b m ts) :
    Calls Try.prog 16 #[.slice a n c, .slice b m d] w fun e w' => (e = .returned (.bool false) ∧ w' = w) ∨ (e = .returned (.bool true) ∧ w' = w ∧ n ≤ 1048576 ∧ m ≤ 1048576) := by
  have HS : Hid (Strs w a n ss) := hs
  have HT : Hid (Strs w b m ts) := ht
  clear hs ht
  by_cases hbig : 1048576 < (n : Int)
  · go_enter Try.func16, Try.ntmps16
    go_wp2
    go_ret
    exact .inl ⟨rfl, rfl⟩
  · go_enter Try.func16, Try.ntmps16
    go_wp2
    go_loop [5, 6] (fun z i => ∃ (k : Nat) (x : Int), k ≤ n ∧ 0 ≤ x ∧ x ≤ 1048576 ∧ i = .int .i64 k ∧ z = .int .i64 x) (fun _ i => n - (intOf i).toNat)
    case atStart => exact ⟨0, n, by omega, by omega, by omega, rfl, rfl⟩
    case round =>
      obtain ⟨k, x, hk, hx0, hxB, rfl, rfl⟩ := hrel
      by_cases hlt : k < n
      · have hS := HS.out
        obtain ⟨s, es⟩ : ∃ s, ss[k]? = some s := ⟨_, List.getElem?_eq_getElem (by have := hS.1; omega)⟩
        obtain ⟨b, off, rfl, hc⟩ := hS.2.resolve_left (by omega)
        have hcell := hc k s es
        clear es hc hS
        by_cases h16 : 1048576 < (s.size : Int)
        · go_wp2
          go_ret
          exact .inl ⟨rfl, rfl⟩
        · by_cases hsz : 1048576 < x + (s.size : Int)
          · go_wp2
            go_ret
            exact .inl ⟨rfl, rfl⟩
          · go_wp2
            go_round
            case rel => exact ⟨k + 1, _, by omega, by omega, by omega, by go_num, rfl⟩
            case measure => simp [intOf]; omega
      · by_cases hm1 : 1048576 < (m : Int)
        · go_wp2
          go_ret
          exact .inl ⟨rfl, rfl⟩
        · by_cases hm2 : 1048576 < x + (m : Int)
          · go_wp2
            go_ret
            exact .inl ⟨rfl, rfl⟩
          · go_wp2
            go_loop [5, 7] (fun z i => ∃ (k : Nat) (x : Int), k ≤ m ∧ 0 ≤ x ∧ x ≤ 1048576 ∧ i = .int .i64 k ∧ z = .int .i64 x) (fun _ i => m - (intOf i).toNat)
            case atStart => exact ⟨0, x + m, by omega, by omega, by omega, rfl, rfl⟩
            case round =>
              obtain ⟨k, x, hk, hx0, hxB, rfl, rfl⟩ := hrel
              by_cases hlt : k < m
              · have hS := HT.out
                obtain ⟨s, es⟩ : ∃ s, ts[k]? = some s := ⟨_, List.getElem?_eq_getElem (by have := hS.1; omega)⟩
                obtain ⟨b, off, rfl, hc⟩ := hS.2.resolve_left (by omega)
                have hcell := hc k s es
                clear es hc hS
                by_cases h16 : 1048576 < (s.size : Int)
                · go_wp2
                  go_ret
                  exact .inl ⟨rfl, rfl⟩
                · by_cases hsz : 1048576 < x + (s.size : Int)
                  · go_wp2
                    go_ret
                    exact .inl ⟨rfl, rfl⟩
                  · go_wp2
                    go_round
                    case rel => exact ⟨k + 1, _, by omega, by omega, by omega, by go_num, rfl⟩
                    case measure => simp [intOf]; omega
              · go_wp2
                go_ret
                exact .inr ⟨rfl, rfl, by omega, by omega⟩
end Go.Proofs.Qxb6605335a
