/-
  THE WALKS of skipDigits, ZZskipDigits, isDigitB1 and of the length guards (functions 27, 17, 19; 12, 15, 16, 18, 21).
-/
import Derived.Test.Qxb6000606aProg
import Derived.WalkKit
import Derived.WalkSpells
import Derived.Test.Qxb6000606aPlain
namespace Go.Proofs.Qxb6000606a
open Go.RowKit

theorem ret_int {k : IntKind} {a b : Int} (h : a = b) : Ending.returned (.int k a) = .returned (.int k b) := by rw [h]

namespace Pl
theorem get_of_lt (s : ByteArray) (k : Nat) (h : k < s.size) : s.data.toList[k]? = some s[k] := by
  rw [List.getElem?_eq_getElem (by simpa using h)]
  rfl

theorem ext_data (s : ByteArray) (a b : Nat) : (s.extract a b).data.toList = (s.data.toList.drop a).take (b - a) := by
  obtain ⟨⟨l⟩⟩ := s
  rw [ByteArray.extract_mk]

theorem ext_tail (s : ByteArray) (a : Nat) : (s.extract a s.size).data.toList = s.data.toList.drop a := by
  rw [ext_data, List.take_of_length_le]
  simp

theorem ext_head (s : ByteArray) (b : Nat) : (s.extract 0 b).data.toList = s.data.toList.take b := by
  rw [ext_data]
  simp

theorem dig_yes {c : UInt8} (h1 : (48 : Int) ≤ (c.toNat : Int)) (h2 : (c.toNat : Int) ≤ 57) : dig c = true := by simp [dig]; omega
theorem dig_no {c : UInt8} (h : ¬ ((48 : Int) ≤ (c.toNat : Int) ∧ (c.toNat : Int) ≤ 57)) : dig c = false := by
  simp only [dig, Bool.and_eq_false_iff, decide_eq_false_iff_not]; omega
end Pl

set_option maxHeartbeats 400000 in
theorem skip_nat (s : ByteArray) (i : Nat) (w : World) (hs : s.size ≤ maxLen) (hi : i ≤ s.size) :
    Calls Try.prog 27 #[.string s, .int .i64 i] w fun e w' => e = .returned (.int .i64 (Pl.skip s.data.toList i : Nat)) ∧ w' = w := by
  unfold maxLen at hs
  go_enter Try.func27, Try.ntmps27
  go_wp2
  go_loop [1] (fun t => ∃ k : Nat, k ≤ s.size ∧ t = .int .i64 k ∧ Hid (Pl.skip s.data.toList k = Pl.skip s.data.toList i)) (fun t => s.size - (intOf t).toNat)
  case atStart => exact ⟨i, hi, rfl, rfl⟩
  case round =>
    obtain ⟨k, hk, rfl, HE⟩ := hrel
    by_cases hlt : k < s.size
    · have hg := Pl.get_of_lt s k hlt
      have HG : Hid (s.data.toList[k]? = some s[k]) := hg
      clear hg
      by_cases hd : (48 : Int) ≤ (s[k].toNat : Int) ∧ (s[k].toNat : Int) ≤ 57
      · obtain ⟨h1, h2⟩ := hd
        go_wp2
        go_round
        case rel => exact ⟨k + 1, by omega, by go_num, (Pl.skip_step _ _ _ HG.out (Pl.dig_yes h1 h2)).trans HE.out⟩
        case measure => simp [intOf]; omega
      · have HN : Hid (Pl.skip s.data.toList k = k) := Pl.skip_stop _ _ _ HG.out (Pl.dig_no hd)
        go_wp2
        all_goals
          go_ret
          exact ⟨ret_int (by rw [← HE.out, HN.out]), rfl⟩
    · have HN : Hid (Pl.skip s.data.toList k = k) := Pl.skip_end _ _ (by simpa using hlt)
      go_wp2
      go_ret
      exact ⟨ret_int (by rw [← HE.out, HN.out]), rfl⟩

theorem skip_any (s : ByteArray) (a : Int) (w : World) (hs : s.size ≤ maxLen) (h0 : 0 ≤ a) (h1 : a ≤ s.size) :
    Calls Try.prog 27 #[.string s, .int .i64 a] w fun e w' => e = .returned (.int .i64 (Pl.skip s.data.toList a.toNat : Nat)) ∧ w' = w := by
  obtain ⟨n, rfl⟩ := Int.eq_ofNat_of_zero_le h0
  rw [Int.toNat_natCast]
  exact skip_nat s n w hs (by omega)

theorem zzskip_any (s : ByteArray) (a : Int) (w : World) (hs : s.size ≤ maxLen) (h0 : 0 ≤ a) (h1 : a ≤ s.size) :
    Calls Try.prog 17 #[.string s, .int .i64 a] w fun e w' => e = .returned (.int .i64 (Pl.skip s.data.toList a.toNat : Nat)) ∧ w' = w := by
  go_enter Try.func17, Try.ntmps17
  go_wp2_with (go_at_call 27; refine (skip_any _ _ _ hs h0 h1).mono ?_; rintro e w' ⟨rfl, rfl⟩)
  go_ret
  exact ⟨rfl, rfl⟩

theorem bytes12 (s : ByteArray) (i : Int) (w : World) (h : (s.size : Int) ≤ 1048576) :
    Calls Try.prog 12 #[.string s, .int .i64 i] w fun e w' => e = .returned (.bool true) ∧ w' = w := by
  go_enter Try.func12, Try.ntmps12
  go_wp2
  go_ret
  exact ⟨rfl, rfl⟩

theorem bytes12_no (s : ByteArray) (i : Int) (w : World) (h : ¬ (s.size : Int) ≤ 1048576) :
    Calls Try.prog 12 #[.string s, .int .i64 i] w fun e w' => e = .returned (.bool false) ∧ w' = w := by
  go_enter Try.func12, Try.ntmps12
  go_wp2
  go_ret
  exact ⟨rfl, rfl⟩

theorem bytes15 (s : ByteArray) (i : Int) (w : World) (h : (s.size : Int) ≤ 1048576) :
    Calls Try.prog 15 #[.string s, .int .i64 i] w fun e w' => e = .returned (.bool true) ∧ w' = w := by
  go_enter Try.func15, Try.ntmps15
  go_wp2
  go_ret
  exact ⟨rfl, rfl⟩

theorem bytes15_no (s : ByteArray) (i : Int) (w : World) (h : ¬ (s.size : Int) ≤ 1048576) :
    Calls Try.prog 15 #[.string s, .int .i64 i] w fun e w' => e = .returned (.bool false) ∧ w' = w := by
  go_enter Try.func15, Try.ntmps15
  go_wp2
  go_ret
  exact ⟨rfl, rfl⟩

theorem bytes16 (s : ByteArray) (i : Int) (w : World) (h : (s.size : Int) ≤ 1048576) :
    Calls Try.prog 16 #[.string s, .int .i64 i] w fun e w' => e = .returned (.bool true) ∧ w' = w := by
  go_enter Try.func16, Try.ntmps16
  go_wp2
  go_ret
  exact ⟨rfl, rfl⟩

theorem bytes16_no (s : ByteArray) (i : Int) (w : World) (h : ¬ (s.size : Int) ≤ 1048576) :
    Calls Try.prog 16 #[.string s, .int .i64 i] w fun e w' => e = .returned (.bool false) ∧ w' = w := by
  go_enter Try.func16, Try.ntmps16
  go_wp2
  go_ret
  exact ⟨rfl, rfl⟩

theorem bytes18 (s : ByteArray) (i : Int) (w : World) (h : (s.size : Int) ≤ 1048576) :
    Calls Try.prog 18 #[.string s, .int .i64 i] w fun e w' => e = .returned (.bool true) ∧ w' = w := by
  go_enter Try.func18, Try.ntmps18
  go_wp2
  go_ret
  exact ⟨rfl, rfl⟩

theorem bytes18_no (s : ByteArray) (i : Int) (w : World) (h : ¬ (s.size : Int) ≤ 1048576) :
    Calls Try.prog 18 #[.string s, .int .i64 i] w fun e w' => e = .returned (.bool false) ∧ w' = w := by
  go_enter Try.func18, Try.ntmps18
  go_wp2
  go_ret
  exact ⟨rfl, rfl⟩

theorem bytes21 (s : ByteArray) (i : Int) (w : World) (h : (s.size : Int) ≤ 1048576) :
    Calls Try.prog 21 #[.string s, .int .i64 i] w fun e w' => e = .returned (.bool true) ∧ w' = w := by
  go_enter Try.func21, Try.ntmps21
  go_wp2
  go_ret
  exact ⟨rfl, rfl⟩

theorem bytes21_no (s : ByteArray) (i : Int) (w : World) (h : ¬ (s.size : Int) ≤ 1048576) :
    Calls Try.prog 21 #[.string s, .int .i64 i] w fun e w' => e = .returned (.bool false) ∧ w' = w := by
  go_enter Try.func21, Try.ntmps21
  go_wp2
  go_ret
  exact ⟨rfl, rfl⟩

end Go.Proofs.Qxb6000606a
