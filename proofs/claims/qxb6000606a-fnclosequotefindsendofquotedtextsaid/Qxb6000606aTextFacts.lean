/-
  WHAT THE LAW OF QUOTED TEXT ASKS of the strings that it puts together; its length guard (function 22).
-/
import Derived.Test.Qxb6000606aWalkText
import Derived.OpenShut
namespace Go.Proofs.Qxb6000606a
open Go.RowKit

namespace Pl
theorem byte_of {a : Int} (h : (Lit.int .u8 a).wf = true) : ∃ q : UInt8, (q.toNat : Int) = a := by
  have hb := bounds_u8 h
  exact ⟨UInt8.ofNat a.toNat, by rw [UInt8.toNat_ofNat']; omega⟩

theorem head_ne (s : ByteArray) (q : UInt8) (hz : 0 < s.size) (hx : ((s[0].toNat : Int) == (q.toNat : Int)) = false) : ∀ d, s.data.toList[0]? = some d → d ≠ q := by
  intro d hd
  rw [get_of_lt s 0 hz, Option.some.injEq] at hd
  rw [← hd]
  exact byte_ne hx
theorem head_none (s : ByteArray) (q : UInt8) (hz : s.size ≤ 0) : ∀ d, s.data.toList[0]? = some d → d ≠ q := by
  intro d hd
  rw [List.getElem?_eq_none (by rw [Array.length_toList]; exact hz)] at hd
  cases hd

theorem quoted_facts (b : ByteArray) (q : UInt8) (bs : Bool) (hb : b.size ≤ 262144) : ∃ (Q : ByteArray) (m : Nat), Hid (Q.data.toList = q :: enc q bs b.data.toList ++ [q]) ∧ Q.size = m + 1 ∧ 1 ≤ m ∧ m ≤ 524289 ∧ (⟨(q :: enc q bs b.data.toList ++ [q]).toArray⟩ : ByteArray) = Q := by
  have hl := enc_len q bs b.data.toList
  have hl2 : b.data.toList.length = b.size := Array.length_toList
  refine ⟨⟨(q :: enc q bs b.data.toList ++ [q]).toArray⟩, (enc q bs b.data.toList).length + 1, rfl, ?_, by omega, by omega, rfl⟩
  simp [ByteArray.size]

theorem len_of {Q : ByteArray} {q : UInt8} {l : List UInt8} {m : Nat} (HQ : Q.data.toList = q :: l ++ [q]) (hm : Q.size = m + 1) : m = l.length + 1 := by
  have h : Q.data.toList.length = m + 1 := by rw [Array.length_toList]; exact hm
  rw [HQ] at h
  simp at h
  omega

theorem at_open (a Q c : ByteArray) (q : UInt8) (bs : Bool) (b : List UInt8) (HQ : Q.data.toList = q :: enc q bs b ++ [q]) : (a ++ Q ++ c).data.toList[(a.size : Int).toNat]? = some q := by
  rw [app_data, app_data, HQ, Int.toNat_natCast]
  rw [show a.size = a.data.toList.length from (Array.length_toList).symm]
  simp
theorem at_close (a Q c : ByteArray) (q : UInt8) (bs : Bool) (b : List UInt8) (m : Nat) (HQ : Q.data.toList = q :: enc q bs b ++ [q]) (hm : Q.size = m + 1) (hb : (bs && isBs q) = false) (hc : ∀ d, c.data.toList[0]? = some d → d ≠ q) :
    closeAt (a ++ Q ++ c).data.toList q bs ((a.size : Int).toNat + 1) = (a.size : Int) + ((m : Int) + 1) := by
  have hl := len_of HQ hm
  rw [app_data, app_data, HQ, Int.toNat_natCast]
  have h := close_quoted a.data.toList b c.data.toList q bs hb hc
  rw [show a.data.toList.length = a.size from Array.length_toList] at h
  rw [h]
  omega
theorem at_open' (a Q : ByteArray) (q : UInt8) (bs : Bool) (b : List UInt8) (m : Nat) (HQ : Q.data.toList = q :: enc q bs b ++ [q]) (hm : Q.size = m + 1) : (a ++ Q.extract 0 m).data.toList[(a.size : Int).toNat]? = some q := by
  have hl := len_of HQ hm
  rw [app_data, ext_head, HQ, Int.toNat_natCast, hl]
  rw [show a.size = a.data.toList.length from (Array.length_toList).symm]
  simp
theorem at_none' (a Q : ByteArray) (q : UInt8) (bs : Bool) (b : List UInt8) (m : Nat) (HQ : Q.data.toList = q :: enc q bs b ++ [q]) (hm : Q.size = m + 1) (hb : (bs && isBs q) = false) :
    closeAt (a ++ Q.extract 0 m).data.toList q bs ((a.size : Int).toNat + 1) = -1 := by
  have hl := len_of HQ hm
  rw [app_data, ext_head, HQ, Int.toNat_natCast, List.take_left' (by rw [hl]; simp)]
  have h := close_open a.data.toList b q bs hb
  rw [show a.data.toList.length = a.size from Array.length_toList] at h
  exact h
end Pl

theorem bytes22 (s t u : ByteArray) (q : Int) (b : Bool) (w : World) (h : (s.size : Int) + (t.size : Int) + (u.size : Int) ≤ 1048576) :
    Calls Try.prog 22 #[.string s, .string t, .string u, .int .u8 q, .bool b] w fun e w' => e = .returned (.bool true) ∧ w' = w := by
  go_enter Try.func22, Try.ntmps22
  go_wp2
  go_ret
  exact ⟨rfl, rfl⟩

theorem bytes22_no (s t u : ByteArray) (q : Int) (b : Bool) (w : World) (hs : s.size ≤ maxLen) (ht : t.size ≤ maxLen) (hu : u.size ≤ maxLen) (h : ¬ (s.size : Int) + (t.size : Int) + (u.size : Int) ≤ 1048576) :
    Calls Try.prog 22 #[.string s, .string t, .string u, .int .u8 q, .bool b] w fun e w' => e = .returned (.bool false) ∧ w' = w := by
  unfold maxLen at hs ht hu
  by_cases h1 : (s.size : Int) ≤ 1048576
  · by_cases h2 : (t.size : Int) ≤ 1048576
    · by_cases h3 : (s.size : Int) + (t.size : Int) ≤ 1048576
      · by_cases h4 : (u.size : Int) ≤ 1048576
        · go_enter Try.func22, Try.ntmps22
          go_wp2
          go_ret
          exact ⟨rfl, rfl⟩
        · go_enter Try.func22, Try.ntmps22
          go_wp2
          go_ret
          exact ⟨rfl, rfl⟩
      · go_enter Try.func22, Try.ntmps22
        go_wp2
        go_ret
        exact ⟨rfl, rfl⟩
    · go_enter Try.func22, Try.ntmps22
      go_wp2
      go_ret
      exact ⟨rfl, rfl⟩
  · go_enter Try.func22, Try.ntmps22
    go_wp2
    go_ret
    exact ⟨rfl, rfl⟩

end Go.Proofs.Qxb6000606a
