/-
  THE WALKS of closeQuote, ZZcloseQuote and of one length guard (functions 29, 24; 25).
-/
import Derived.Test.Qxb6000606aProg
import Derived.WalkKit
import Derived.WalkSpells
import Derived.Deep.QuietTactic
import Derived.BigQuiet
import Derived.Test.Qxb6000606aWalkSkip
import Derived.Test.Qxb6000606aPlainQuote
namespace Go.Proofs.Qxb6000606a
open Go.RowKit

namespace Pl
theorem byte_eq {a b : UInt8} (h : ((a.toNat : Int) == (b.toNat : Int)) = true) : a = b := by
  have h1 : (a.toNat : Int) = (b.toNat : Int) := by simpa using h
  exact UInt8.toNat_inj.1 (by omega)
theorem byte_ne {a b : UInt8} (h : ((a.toNat : Int) == (b.toNat : Int)) = false) : a ≠ b := by
  rintro rfl
  simp at h
theorem byte_eq' {a b : UInt8} (h : ((a.toNat : Int) != (b.toNat : Int)) = false) : a = b := byte_eq (by simpa [bne] using h)
theorem byte_ne' {a b : UInt8} (h : ((a.toNat : Int) != (b.toNat : Int)) = true) : a ≠ b := byte_ne (by simpa [bne] using h)
theorem bs_no (c : UInt8) : (false && isBs c) = false := rfl
theorem bs_yes {c : UInt8} (h : ((c.toNat : Int) == 92) = true) : (true && isBs c) = true := by simpa [isBs] using h
theorem bs_other {c : UInt8} (h : ((c.toNat : Int) == 92) = false) : (true && isBs c) = false := by simpa [isBs] using h

theorem way_bs (s : ByteArray) (q : UInt8) (bs : Bool) (j : Nat) (hj : j < s.size) (hb : (bs && isBs s[j]) = true) : closeAt s.data.toList q bs (j + 2) = closeAt s.data.toList q bs j :=
  closeAt_bs _ _ _ _ _ (get_of_lt s j hj) hb
theorem way_other (s : ByteArray) (q : UInt8) (bs : Bool) (j : Nat) (hj : j < s.size) (hb : (bs && isBs s[j]) = false) (h : ((s[j].toNat : Int) != (q.toNat : Int)) = true) : closeAt s.data.toList q bs (j + 1) = closeAt s.data.toList q bs j :=
  closeAt_other _ _ _ _ _ (get_of_lt s j hj) hb (byte_ne' h)
theorem way_dbl (s : ByteArray) (q : UInt8) (bs : Bool) (j : Nat) (hj : j < s.size) (hb : (bs && isBs s[j]) = false) (h : ((s[j].toNat : Int) != (q.toNat : Int)) = false) (hj1 : j + 1 < s.size) (h1 : ((s[j + 1].toNat : Int) == (q.toNat : Int)) = true) :
    closeAt s.data.toList q bs (j + 2) = closeAt s.data.toList q bs j := by
  have e := byte_eq' h
  have e1 := byte_eq h1
  subst e
  exact closeAt_dbl _ _ _ _ (get_of_lt s j hj) (by rw [get_of_lt s (j + 1) hj1, e1]) hb
theorem way_stop (s : ByteArray) (q : UInt8) (bs : Bool) (j : Nat) (hj : j < s.size) (hb : (bs && isBs s[j]) = false) (h : ((s[j].toNat : Int) != (q.toNat : Int)) = false) (hj1 : j + 1 < s.size) (h1 : ((s[j + 1].toNat : Int) == (q.toNat : Int)) = false) :
    closeAt s.data.toList q bs j = (j : Int) + 1 := by
  have e := byte_eq' h
  have e1 := byte_ne h1
  subst e
  refine closeAt_stop _ _ _ _ (get_of_lt s j hj) ?_ hb
  intro d hd
  rw [get_of_lt s (j + 1) hj1] at hd
  simp only [Option.some.injEq] at hd
  rw [← hd]
  exact e1
theorem way_last (s : ByteArray) (q : UInt8) (bs : Bool) (j : Nat) (hj : j < s.size) (hb : (bs && isBs s[j]) = false) (h : ((s[j].toNat : Int) != (q.toNat : Int)) = false) (hj1 : (s.size : Int) ≤ (j : Int) + 1) :
    closeAt s.data.toList q bs j = (j : Int) + 1 := by
  have e := byte_eq' h
  subst e
  refine closeAt_stop _ _ _ _ (get_of_lt s j hj) ?_ hb
  intro d hd
  rw [List.getElem?_eq_none (by simp; omega)] at hd
  cases hd
end Pl

set_option maxHeartbeats 800000 in
theorem close_nat (s : ByteArray) (o : Nat) (bs : Bool) (w : World) (hs : s.size ≤ 4194304) (ho : o < s.size) :
    Calls Try.prog 29 #[.string s, .int .i64 o, .bool bs] w fun e w' => e = .returned (.int .i64 (Pl.closeAt s.data.toList s[o] bs (o + 1))) ∧ w' = w := by
  go_enter Try.func29, Try.ntmps29
  go_wp2
  go_loop [8] (fun t => ∃ j : Nat, j ≤ s.size + 1 ∧ t = .int .i64 j ∧ Hid (Pl.closeAt s.data.toList s[o] bs j = Pl.closeAt s.data.toList s[o] bs (o + 1))) (fun t => s.size + 1 - (intOf t).toNat)
  case atStart => exact ⟨o + 1, by omega, by go_num, rfl⟩
  case round =>
    obtain ⟨j, hj, rfl, HE⟩ := hrel
    by_cases hlt : j < s.size
    · cases bs
      · have hb : Hid ((false && Pl.isBs s[j]) = false) := Pl.bs_no _
        go_wp2
        · go_round
          case rel => exact ⟨j + 1, by omega, by go_num, (Pl.way_other s _ _ j hlt hb.out ‹_›).trans HE.out⟩
          case measure => simp [intOf]; omega
        · go_round
          case rel => exact ⟨j + 2, by omega, by go_num, (Pl.way_dbl s _ _ j hlt hb.out ‹_› (by omega) ‹_›).trans HE.out⟩
          case measure => simp [intOf]; omega
        · go_ret
          exact ⟨ret_int (by rw [← HE.out, Pl.way_stop s _ _ j hlt hb.out ‹_› (by omega) ‹_›]), rfl⟩
        · go_ret
          exact ⟨ret_int (by rw [← HE.out, Pl.way_last s _ _ j hlt hb.out ‹_› (by omega)]), rfl⟩
      · cases hb : (s[j].toNat : Int) == 92
        · have hb' : Hid ((true && Pl.isBs s[j]) = false) := Pl.bs_other hb
          go_wp2
          · go_round
            case rel => exact ⟨j + 1, by omega, by go_num, (Pl.way_other s _ _ j hlt hb'.out ‹_›).trans HE.out⟩
            case measure => simp [intOf]; omega
          · go_round
            case rel => exact ⟨j + 2, by omega, by go_num, (Pl.way_dbl s _ _ j hlt hb'.out ‹_› (by omega) ‹_›).trans HE.out⟩
            case measure => simp [intOf]; omega
          · go_ret
            exact ⟨ret_int (by rw [← HE.out, Pl.way_stop s _ _ j hlt hb'.out ‹_› (by omega) ‹_›]), rfl⟩
          · go_ret
            exact ⟨ret_int (by rw [← HE.out, Pl.way_last s _ _ j hlt hb'.out ‹_› (by omega)]), rfl⟩
        · have hb' : Hid ((true && Pl.isBs s[j]) = true) := Pl.bs_yes hb
          go_wp2
          go_round
          case rel => exact ⟨j + 2, by omega, by go_num, (Pl.way_bs s _ _ j hlt hb'.out).trans HE.out⟩
          case measure => simp [intOf]; omega
    · have HN : Hid (Pl.closeAt s.data.toList s[o] bs j = -1) := Pl.closeAt_end _ _ _ _ (by simpa using hlt)
      go_wp2
      go_ret
      exact ⟨ret_int (by rw [← HE.out, HN.out]), rfl⟩

/-- ZZcloseQuote, at a quote q that stands at place a. -/
theorem zzclose_any (s : ByteArray) (a : Int) (bs : Bool) (q : UInt8) (w : World) (hs : s.size ≤ 4194304) (h0 : 0 ≤ a) (h1 : a < s.size) (hq : s.data.toList[a.toNat]? = some q) :
    Calls Try.prog 24 #[.string s, .int .i64 a, .bool bs] w fun e w' => e = .returned (.int .i64 (Pl.closeAt s.data.toList q bs (a.toNat + 1))) ∧ w' = w := by
  obtain ⟨n, rfl⟩ := Int.eq_ofNat_of_zero_le h0
  have hn : n < s.size := by omega
  rw [Int.toNat_natCast] at hq ⊢
  have e : q = s[n] := by
    rw [Pl.get_of_lt s n hn] at hq
    simpa using hq.symm
  subst e
  clear hq
  go_enter Try.func24, Try.ntmps24
  go_wp2_with (go_at_call 29; refine (close_nat _ _ _ _ hs hn).mono ?_; rintro e w' ⟨rfl, rfl⟩)
  go_ret
  exact ⟨rfl, rfl⟩

/-- The same, its answer named. -/
theorem zzclose_is (s : ByteArray) (a : Int) (bs : Bool) (q : UInt8) (v : Int) (w : World) (hs : s.size ≤ 4194304) (h0 : 0 ≤ a) (h1 : a < s.size) (hq : s.data.toList[a.toNat]? = some q) (hv : Pl.closeAt s.data.toList q bs (a.toNat + 1) = v) :
    Calls Try.prog 24 #[.string s, .int .i64 a, .bool bs] w fun e w' => e = .returned (.int .i64 v) ∧ w' = w := by
  subst hv
  exact zzclose_any s a bs q w hs h0 h1 hq

namespace Pl
theorem app_data (a b : ByteArray) : (a ++ b).data.toList = a.data.toList ++ b.data.toList := by simp
theorem app_head (a b : ByteArray) (n : Nat) : (a.extract 0 n ++ b).data.toList = a.data.toList.take n ++ b.data.toList := by rw [app_data, ext_head]
theorem get_app (l m : List UInt8) (n k : Nat) (c : UInt8) (h : k < n) (hc : l[k]? = some c) : (l.take n ++ m)[k]? = some c := by
  obtain ⟨hk, _⟩ := List.getElem?_eq_some_iff.1 hc
  rw [List.getElem?_append_left (by simp; omega), List.getElem?_take, if_pos h]
  exact hc
theorem grown_drewN (w : World) (n : Nat) : Grown w (w.drewN n) := by
  induction n with
  | zero => exact Grown.refl _
  | succ n ih => exact ih.drew
end Pl

theorem bytes25 (s t : ByteArray) (i : Int) (b : Bool) (w : World) (h : (s.size : Int) + (t.size : Int) ≤ 1048576) :
    Calls Try.prog 25 #[.string s, .int .i64 i, .bool b, .string t] w fun e w' => e = .returned (.bool true) ∧ w' = w := by
  go_enter Try.func25, Try.ntmps25
  go_wp2
  go_ret
  exact ⟨rfl, rfl⟩

theorem bytes25_no (s t : ByteArray) (i : Int) (b : Bool) (w : World) (hs : s.size ≤ maxLen) (ht : t.size ≤ maxLen) (h : ¬ (s.size : Int) + (t.size : Int) ≤ 1048576) :
    Calls Try.prog 25 #[.string s, .int .i64 i, .bool b, .string t] w fun e w' => e = .returned (.bool false) ∧ w' = w := by
  unfold maxLen at hs ht
  by_cases h1 : (s.size : Int) ≤ 1048576
  · by_cases h2 : (t.size : Int) ≤ 1048576
    · go_enter Try.func25, Try.ntmps25
      go_wp2
      go_ret
      exact ⟨rfl, rfl⟩
    · go_enter Try.func25, Try.ntmps25
      go_wp2
      go_ret
      exact ⟨rfl, rfl⟩
  · go_enter Try.func25, Try.ntmps25
    go_wp2
    go_ret
    exact ⟨rfl, rfl⟩

end Go.Proofs.Qxb6000606a
