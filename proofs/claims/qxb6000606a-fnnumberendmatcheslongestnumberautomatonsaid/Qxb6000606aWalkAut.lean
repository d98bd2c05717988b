/-
  THE WALK of longestNumberB1 (function 14): the automaton.
-/
import Derived.Test.Qxb6000606aProg
import Derived.WalkKit
import Derived.WalkSpells
import Derived.Test.Qxb6000606aWalkDigit
import Derived.Test.Qxb6000606aWalkNum
import Derived.Test.Qxb6000606aPlainAut
namespace Go.Proofs.Qxb6000606a
open Go.RowKit

namespace Pl
theorem sgn_two {c : UInt8} (h : ((c.toNat : Int) == 43) = true ∨ ((c.toNat : Int) == 45) = true) : sgn c = true := by simpa [sgn] using h
theorem sgn_not {c : UInt8} (h : ((c.toNat : Int) == 43) = false ∧ ((c.toNat : Int) == 45) = false) : sgn c = false := by simpa [sgn] using h

theorem aut_acc (s : ByteArray) (j : Nat) (st : Int) (b : Nat) (n : Int) (hj : j < s.size) (hn : nxt st s[j] = n) (h0 : 0 ≤ n) (ha : acc n = true) : autAt s.data.toList n (j + 1) (j + 1) = autAt s.data.toList st b j := by
  have h := autAt_step s.data.toList st b j _ (get_of_lt s j hj) (by omega)
  rw [hn, ha, if_pos rfl] at h
  exact h
theorem aut_go (s : ByteArray) (j : Nat) (st : Int) (b : Nat) (n : Int) (hj : j < s.size) (hn : nxt st s[j] = n) (h0 : 0 ≤ n) (ha : acc n = false) : autAt s.data.toList n b (j + 1) = autAt s.data.toList st b j := by
  have h := autAt_step s.data.toList st b j _ (get_of_lt s j hj) (by omega)
  rw [hn, ha, if_neg (by simp)] at h
  exact h
theorem aut_halt (s : ByteArray) (j : Nat) (st : Int) (b : Nat) (hj : j < s.size) (hn : nxt st s[j] = -1) : autAt s.data.toList st b j = b :=
  autAt_stop s.data.toList st b j _ (get_of_lt s j hj) (by omega)
end Pl

set_option maxHeartbeats 8000000 in
set_option maxRecDepth 100000 in
theorem aut_nat (s : ByteArray) (i : Nat) (w : World) (hs : s.size ≤ 4194304) (hi : i ≤ s.size) :
    Calls Try.prog 14 #[.string s, .int .i64 i] w fun e w' => e = .returned (.int .i64 (Pl.autAt s.data.toList 0 i i : Nat)) ∧ w' = w := by
  go_enter Try.func14, Try.ntmps14
  go_wp2_with fail
  go_loop [5, 6, 7] (fun tb ts tj => ∃ (b j : Nat) (st : Int), b ≤ s.size ∧ j ≤ s.size ∧ 0 ≤ st ∧ st ≤ 6 ∧ tb = .int .i64 b ∧ ts = .int .i64 st ∧ tj = .int .i64 j ∧ Hid (Pl.autAt s.data.toList st b j = Pl.autAt s.data.toList 0 i i)) (fun _ _ tj => s.size - (intOf tj).toNat)
  case atStart => exact ⟨i, i, 0, hi, hi, by omega, by omega, rfl, rfl, rfl, rfl⟩
  case round =>
    obtain ⟨b, j, st, hb, hj, hst0, hst6, rfl, rfl, rfl, HE⟩ := hrel
    by_cases hlt : j < s.size
    · skip
      cases hd : Pl.dig s[j]
      · have HD : Hid (Pl.dig s[j] = false) := hd
        clear hd
        rcases (show st = 0 ∨ st = 1 ∨ st = 2 ∨ st = 3 ∨ st = 4 ∨ st = 5 ∨ st = 6 from by omega) with rfl | rfl | rfl | rfl | rfl | rfl | rfl
        · skip
          cases hp : ((s[j].toNat : Int) == 46)
          · have HP : Hid (Pl.isDot s[j] = false) := Pl.isDot_no hp
            have HN : Hid (Pl.nxt 0 s[j] = -1) := by show _ = _; simp [Pl.nxt, HD.out, HP.out]
            go_wp2_with (go_at_call 19; refine (digit_is _ false _ HD.out).mono ?_; rintro e w' ⟨rfl, rfl⟩)
            go_ret
            exact ⟨ret_int (by rw [← HE.out, Pl.aut_halt s j _ b hlt HN.out]), rfl⟩
          · have HP : Hid (Pl.isDot s[j] = true) := Pl.isDot_yes hp
            have HN : Hid (Pl.nxt 0 s[j] = 2) := by show _ = _; simp [Pl.nxt, HD.out, HP.out]
            go_wp2_with (go_at_call 19; refine (digit_is _ false _ HD.out).mono ?_; rintro e w' ⟨rfl, rfl⟩)
            go_round
            case rel => exact ⟨b, j + 1, 2, by omega, by omega, by omega, by omega, by go_num, rfl, by go_num, (Pl.aut_go s j _ b 2 hlt HN.out (by omega) rfl).trans HE.out⟩
            case measure => simp [intOf]; omega
        · skip
          cases hp : ((s[j].toNat : Int) == 46)
          · have HP : Hid (Pl.isDot s[j] = false) := Pl.isDot_no hp
            cases h1 : ((s[j].toNat : Int) == 101)
            · cases h2 : ((s[j].toNat : Int) == 69)
              · have HX : Hid (Pl.isE s[j] = false) := Pl.isE_not ⟨h1, h2⟩
                have HN : Hid (Pl.nxt 1 s[j] = -1) := by show _ = _; simp [Pl.nxt, HD.out, HP.out, HX.out]
                go_wp2_with (go_at_call 19; refine (digit_is _ false _ HD.out).mono ?_; rintro e w' ⟨rfl, rfl⟩)
                go_ret
                exact ⟨ret_int (by rw [← HE.out, Pl.aut_halt s j _ b hlt HN.out]), rfl⟩
              · have HX : Hid (Pl.isE s[j] = true) := Pl.isE_two (Or.inr h2)
                have HN : Hid (Pl.nxt 1 s[j] = 4) := by show _ = _; simp [Pl.nxt, HD.out, HP.out, HX.out]
                go_wp2_with (go_at_call 19; refine (digit_is _ false _ HD.out).mono ?_; rintro e w' ⟨rfl, rfl⟩)
                go_round
                case rel => exact ⟨b, j + 1, 4, by omega, by omega, by omega, by omega, by go_num, rfl, by go_num, (Pl.aut_go s j _ b 4 hlt HN.out (by omega) rfl).trans HE.out⟩
                case measure => simp [intOf]; omega
            · have HX : Hid (Pl.isE s[j] = true) := Pl.isE_two (Or.inl h1)
              have HN : Hid (Pl.nxt 1 s[j] = 4) := by show _ = _; simp [Pl.nxt, HD.out, HP.out, HX.out]
              go_wp2_with (go_at_call 19; refine (digit_is _ false _ HD.out).mono ?_; rintro e w' ⟨rfl, rfl⟩)
              go_round
              case rel => exact ⟨b, j + 1, 4, by omega, by omega, by omega, by omega, by go_num, rfl, by go_num, (Pl.aut_go s j _ b 4 hlt HN.out (by omega) rfl).trans HE.out⟩
              case measure => simp [intOf]; omega
          · have HP : Hid (Pl.isDot s[j] = true) := Pl.isDot_yes hp
            have HN : Hid (Pl.nxt 1 s[j] = 3) := by show _ = _; simp [Pl.nxt, HD.out, HP.out]
            go_wp2_with (go_at_call 19; refine (digit_is _ false _ HD.out).mono ?_; rintro e w' ⟨rfl, rfl⟩)
            go_round
            case rel => exact ⟨j + 1, j + 1, 3, by omega, by omega, by omega, by omega, by go_num, rfl, by go_num, (Pl.aut_acc s j _ b 3 hlt HN.out (by omega) rfl).trans HE.out⟩
            case measure => simp [intOf]; omega
        · skip
          have HN : Hid (Pl.nxt 2 s[j] = -1) := by show _ = _; simp [Pl.nxt, HD.out]
          go_wp2_with (go_at_call 19; refine (digit_is _ false _ HD.out).mono ?_; rintro e w' ⟨rfl, rfl⟩)
          go_ret
          exact ⟨ret_int (by rw [← HE.out, Pl.aut_halt s j _ b hlt HN.out]), rfl⟩
        · skip
          cases h1 : ((s[j].toNat : Int) == 101)
          · cases h2 : ((s[j].toNat : Int) == 69)
            · have HX : Hid (Pl.isE s[j] = false) := Pl.isE_not ⟨h1, h2⟩
              have HN : Hid (Pl.nxt 3 s[j] = -1) := by show _ = _; simp [Pl.nxt, HD.out, HX.out]
              go_wp2_with (go_at_call 19; refine (digit_is _ false _ HD.out).mono ?_; rintro e w' ⟨rfl, rfl⟩)
              go_ret
              exact ⟨ret_int (by rw [← HE.out, Pl.aut_halt s j _ b hlt HN.out]), rfl⟩
            · have HX : Hid (Pl.isE s[j] = true) := Pl.isE_two (Or.inr h2)
              have HN : Hid (Pl.nxt 3 s[j] = 4) := by show _ = _; simp [Pl.nxt, HD.out, HX.out]
              go_wp2_with (go_at_call 19; refine (digit_is _ false _ HD.out).mono ?_; rintro e w' ⟨rfl, rfl⟩)
              go_round
              case rel => exact ⟨b, j + 1, 4, by omega, by omega, by omega, by omega, by go_num, rfl, by go_num, (Pl.aut_go s j _ b 4 hlt HN.out (by omega) rfl).trans HE.out⟩
              case measure => simp [intOf]; omega
          · have HX : Hid (Pl.isE s[j] = true) := Pl.isE_two (Or.inl h1)
            have HN : Hid (Pl.nxt 3 s[j] = 4) := by show _ = _; simp [Pl.nxt, HD.out, HX.out]
            go_wp2_with (go_at_call 19; refine (digit_is _ false _ HD.out).mono ?_; rintro e w' ⟨rfl, rfl⟩)
            go_round
            case rel => exact ⟨b, j + 1, 4, by omega, by omega, by omega, by omega, by go_num, rfl, by go_num, (Pl.aut_go s j _ b 4 hlt HN.out (by omega) rfl).trans HE.out⟩
            case measure => simp [intOf]; omega
        · skip
          cases h1 : ((s[j].toNat : Int) == 43)
          · cases h2 : ((s[j].toNat : Int) == 45)
            · have HS : Hid (Pl.sgn s[j] = false) := Pl.sgn_not ⟨h1, h2⟩
              have HN : Hid (Pl.nxt 4 s[j] = -1) := by show _ = _; simp [Pl.nxt, HD.out, HS.out]
              go_wp2_with (go_at_call 19; refine (digit_is _ false _ HD.out).mono ?_; rintro e w' ⟨rfl, rfl⟩)
              go_ret
              exact ⟨ret_int (by rw [← HE.out, Pl.aut_halt s j _ b hlt HN.out]), rfl⟩
            · have HS : Hid (Pl.sgn s[j] = true) := Pl.sgn_two (Or.inr h2)
              have HN : Hid (Pl.nxt 4 s[j] = 5) := by show _ = _; simp [Pl.nxt, HD.out, HS.out]
              go_wp2_with (go_at_call 19; refine (digit_is _ false _ HD.out).mono ?_; rintro e w' ⟨rfl, rfl⟩)
              go_round
              case rel => exact ⟨b, j + 1, 5, by omega, by omega, by omega, by omega, by go_num, rfl, by go_num, (Pl.aut_go s j _ b 5 hlt HN.out (by omega) rfl).trans HE.out⟩
              case measure => simp [intOf]; omega
          · have HS : Hid (Pl.sgn s[j] = true) := Pl.sgn_two (Or.inl h1)
            have HN : Hid (Pl.nxt 4 s[j] = 5) := by show _ = _; simp [Pl.nxt, HD.out, HS.out]
            go_wp2_with (go_at_call 19; refine (digit_is _ false _ HD.out).mono ?_; rintro e w' ⟨rfl, rfl⟩)
            go_round
            case rel => exact ⟨b, j + 1, 5, by omega, by omega, by omega, by omega, by go_num, rfl, by go_num, (Pl.aut_go s j _ b 5 hlt HN.out (by omega) rfl).trans HE.out⟩
            case measure => simp [intOf]; omega
        · skip
          have HN : Hid (Pl.nxt 5 s[j] = -1) := by show _ = _; simp [Pl.nxt, HD.out]
          go_wp2_with (go_at_call 19; refine (digit_is _ false _ HD.out).mono ?_; rintro e w' ⟨rfl, rfl⟩)
          go_ret
          exact ⟨ret_int (by rw [← HE.out, Pl.aut_halt s j _ b hlt HN.out]), rfl⟩
        · skip
          have HN : Hid (Pl.nxt 6 s[j] = -1) := by show _ = _; simp [Pl.nxt, HD.out]
          go_wp2_with (go_at_call 19; refine (digit_is _ false _ HD.out).mono ?_; rintro e w' ⟨rfl, rfl⟩)
          go_ret
          exact ⟨ret_int (by rw [← HE.out, Pl.aut_halt s j _ b hlt HN.out]), rfl⟩
      · have HD : Hid (Pl.dig s[j] = true) := hd
        clear hd
        rcases (show st = 0 ∨ st = 1 ∨ st = 2 ∨ st = 3 ∨ st = 4 ∨ st = 5 ∨ st = 6 from by omega) with rfl | rfl | rfl | rfl | rfl | rfl | rfl
        · skip
          have HN : Hid (Pl.nxt 0 s[j] = 1) := by show _ = _; simp [Pl.nxt, HD.out]
          go_wp2_with (go_at_call 19; refine (digit_is _ true _ HD.out).mono ?_; rintro e w' ⟨rfl, rfl⟩)
          go_round
          case rel => exact ⟨j + 1, j + 1, 1, by omega, by omega, by omega, by omega, by go_num, rfl, by go_num, (Pl.aut_acc s j _ b 1 hlt HN.out (by omega) rfl).trans HE.out⟩
          case measure => simp [intOf]; omega
        · skip
          have HN : Hid (Pl.nxt 1 s[j] = 1) := by show _ = _; simp [Pl.nxt, HD.out]
          go_wp2_with (go_at_call 19; refine (digit_is _ true _ HD.out).mono ?_; rintro e w' ⟨rfl, rfl⟩)
          go_round
          case rel => exact ⟨j + 1, j + 1, 1, by omega, by omega, by omega, by omega, by go_num, rfl, by go_num, (Pl.aut_acc s j _ b 1 hlt HN.out (by omega) rfl).trans HE.out⟩
          case measure => simp [intOf]; omega
        · skip
          have HN : Hid (Pl.nxt 2 s[j] = 3) := by show _ = _; simp [Pl.nxt, HD.out]
          go_wp2_with (go_at_call 19; refine (digit_is _ true _ HD.out).mono ?_; rintro e w' ⟨rfl, rfl⟩)
          go_round
          case rel => exact ⟨j + 1, j + 1, 3, by omega, by omega, by omega, by omega, by go_num, rfl, by go_num, (Pl.aut_acc s j _ b 3 hlt HN.out (by omega) rfl).trans HE.out⟩
          case measure => simp [intOf]; omega
        · skip
          have HN : Hid (Pl.nxt 3 s[j] = 3) := by show _ = _; simp [Pl.nxt, HD.out]
          go_wp2_with (go_at_call 19; refine (digit_is _ true _ HD.out).mono ?_; rintro e w' ⟨rfl, rfl⟩)
          go_round
          case rel => exact ⟨j + 1, j + 1, 3, by omega, by omega, by omega, by omega, by go_num, rfl, by go_num, (Pl.aut_acc s j _ b 3 hlt HN.out (by omega) rfl).trans HE.out⟩
          case measure => simp [intOf]; omega
        · skip
          have HN : Hid (Pl.nxt 4 s[j] = 6) := by show _ = _; simp [Pl.nxt, HD.out]
          go_wp2_with (go_at_call 19; refine (digit_is _ true _ HD.out).mono ?_; rintro e w' ⟨rfl, rfl⟩)
          go_round
          case rel => exact ⟨j + 1, j + 1, 6, by omega, by omega, by omega, by omega, by go_num, rfl, by go_num, (Pl.aut_acc s j _ b 6 hlt HN.out (by omega) rfl).trans HE.out⟩
          case measure => simp [intOf]; omega
        · skip
          have HN : Hid (Pl.nxt 5 s[j] = 6) := by show _ = _; simp [Pl.nxt, HD.out]
          go_wp2_with (go_at_call 19; refine (digit_is _ true _ HD.out).mono ?_; rintro e w' ⟨rfl, rfl⟩)
          go_round
          case rel => exact ⟨j + 1, j + 1, 6, by omega, by omega, by omega, by omega, by go_num, rfl, by go_num, (Pl.aut_acc s j _ b 6 hlt HN.out (by omega) rfl).trans HE.out⟩
          case measure => simp [intOf]; omega
        · skip
          have HN : Hid (Pl.nxt 6 s[j] = 6) := by show _ = _; simp [Pl.nxt, HD.out]
          go_wp2_with (go_at_call 19; refine (digit_is _ true _ HD.out).mono ?_; rintro e w' ⟨rfl, rfl⟩)
          go_round
          case rel => exact ⟨j + 1, j + 1, 6, by omega, by omega, by omega, by omega, by go_num, rfl, by go_num, (Pl.aut_acc s j _ b 6 hlt HN.out (by omega) rfl).trans HE.out⟩
          case measure => simp [intOf]; omega
    · have HN : Hid (Pl.autAt s.data.toList st b j = b) := Pl.autAt_end _ _ _ _ (by rw [Array.length_toList]; show s.size ≤ j; omega)
      go_wp2_with fail
      go_ret
      exact ⟨ret_int (by rw [← HE.out, HN.out]), rfl⟩

theorem aut_is (s : ByteArray) (a v : Int) (w : World) (hs : s.size ≤ 4194304) (h0 : 0 ≤ a) (h1 : a ≤ s.size) (hv : ((Pl.autAt s.data.toList 0 a.toNat a.toNat : Nat) : Int) = v) :
    Calls Try.prog 14 #[.string s, .int .i64 a] w fun e w' => e = .returned (.int .i64 v) ∧ w' = w := by
  obtain ⟨n, rfl⟩ := Int.eq_ofNat_of_zero_le h0
  rw [Int.toNat_natCast] at hv
  subst hv
  exact aut_nat s n w hs (by omega)

end Go.Proofs.Qxb6000606a
