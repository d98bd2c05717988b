/-
  THE WALK of isDigitB1 (function 19).
-/
import Derived.Test.Qxb6000606aProg
import Derived.WalkKit
import Derived.WalkSpells
import Derived.Test.Qxb6000606aWalkSkip
namespace Go.Proofs.Qxb6000606a
open Go.RowKit

theorem digit_any (c : UInt8) (w : World) :
    Calls Try.prog 19 #[.int .u8 (c.toNat : Int)] w fun e w' => e = .returned (.bool (Pl.dig c)) ∧ w' = w := by
  by_cases h1 : (48 : Int) ≤ (c.toNat : Int)
  · by_cases h2 : (c.toNat : Int) ≤ 57
    · have HD : Hid (Pl.dig c = true) := Pl.dig_yes h1 h2
      go_enter Try.func19, Try.ntmps19
      go_wp2
      go_ret
      exact ⟨by simp [HD.out], rfl⟩
    · have HD : Hid (Pl.dig c = false) := Pl.dig_no (by omega)
      go_enter Try.func19, Try.ntmps19
      go_wp2
      go_ret
      exact ⟨by simp [HD.out], rfl⟩
  · have HD : Hid (Pl.dig c = false) := Pl.dig_no (by omega)
    go_enter Try.func19, Try.ntmps19
    go_wp2
    go_ret
    exact ⟨by simp [HD.out], rfl⟩

/-- The same, its answer named. -/
theorem digit_is (c : UInt8) (b : Bool) (w : World) (hb : Pl.dig c = b) :
    Calls Try.prog 19 #[.int .u8 (c.toNat : Int)] w fun e w' => e = .returned (.bool b) ∧ w' = w := by
  subst hb
  exact digit_any c w

theorem zzskip_as (s : ByteArray) (a v : Int) (w : World) (hs : s.size ≤ maxLen) (h0 : 0 ≤ a) (h1 : a ≤ s.size) (hv : ((Pl.skip s.data.toList a.toNat : Nat) : Int) = v) :
    Calls Try.prog 17 #[.string s, .int .i64 a] w fun e w' => e = .returned (.int .i64 v) ∧ w' = w := by
  subst hv
  exact zzskip_any s a w hs h0 h1

end Go.Proofs.Qxb6000606a
