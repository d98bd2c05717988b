/-
  THE WALKS of isSign, NumberEnd (functions 28, 13).
-/
import Derived.Test.Qxb6000606aProg
import Derived.WalkKit
import Derived.WalkSpells
import Derived.Test.Qxb6000606aWalkSkip
namespace Go.Proofs.Qxb6000606a
open Go.RowKit

namespace Pl
theorem isE_one {c : UInt8} (h : (c.toNat : Int) = 101) : isE c = true := by simp [isE, h]
theorem isE_two {c : UInt8} (h : ((c.toNat : Int) == 101) = true ∨ ((c.toNat : Int) == 69) = true) : isE c = true := by simpa [isE] using h
theorem isE_not {c : UInt8} (h : ((c.toNat : Int) == 101) = false ∧ ((c.toNat : Int) == 69) = false) : isE c = false := by simpa [isE] using h
theorem isDot_yes {c : UInt8} (h : ((c.toNat : Int) == 46) = true) : isDot c = true := by simpa [isDot] using h
theorem isDot_no {c : UInt8} (h : ((c.toNat : Int) == 46) = false) : isDot c = false := by simpa [isDot] using h

theorem at_byte (p : UInt8 → Bool) (s : ByteArray) (k : Nat) (h : k < s.size) : at? p s.data.toList k = p s[k] := by simp [at?, get_of_lt s k h]
theorem at_past (p : UInt8 → Bool) (s : ByteArray) (k : Nat) (h : s.size ≤ k) : at? p s.data.toList k = false := at_none _ _ _ (by rw [Array.length_toList]; exact h)

theorem end_sgn_yes (s : ByteArray) (e : Nat) (h : e + 1 < s.size) (hE : isE s[e] = true) (hS : sgn s[e + 1] = true) (hl : (e : Int) + 1 + 1 < (skip s.data.toList (e + 1 + 1) : Int)) :
    ((expo s.data.toList e : Nat) : Int) = (skip s.data.toList (e + 1 + 1) : Int) := by
  rw [show e + 1 + 1 = e + 2 from rfl] at hl ⊢
  unfold expo
  rw [at_byte _ s e (by omega), hE, if_pos rfl, at_byte _ s (e + 1) h, hS, if_pos rfl, if_pos (by omega)]
theorem end_sgn_no (s : ByteArray) (e : Nat) (h : e + 1 < s.size) (hE : isE s[e] = true) (hS : sgn s[e + 1] = true) (hl : (skip s.data.toList (e + 1 + 1) : Int) ≤ (e : Int) + 1 + 1) :
    ((expo s.data.toList e : Nat) : Int) = (e : Int) := by
  rw [show e + 1 + 1 = e + 2 from rfl] at hl
  unfold expo
  rw [at_byte _ s e (by omega), hE, if_pos rfl, at_byte _ s (e + 1) h, hS, if_pos rfl, if_neg (by omega)]
theorem end_bare_yes (s : ByteArray) (e : Nat) (h : e + 1 < s.size) (hE : isE s[e] = true) (hS : sgn s[e + 1] = false) (hl : (e : Int) + 1 < (skip s.data.toList (e + 1) : Int)) :
    ((expo s.data.toList e : Nat) : Int) = (skip s.data.toList (e + 1) : Int) := by
  unfold expo
  rw [at_byte _ s e (by omega), hE, if_pos rfl, at_byte _ s (e + 1) h, hS, if_neg (by simp), if_pos (by omega)]
theorem end_bare_no (s : ByteArray) (e : Nat) (h : e + 1 < s.size) (hE : isE s[e] = true) (hS : sgn s[e + 1] = false) (hl : (skip s.data.toList (e + 1) : Int) ≤ (e : Int) + 1) :
    ((expo s.data.toList e : Nat) : Int) = (e : Int) := by
  unfold expo
  rw [at_byte _ s e (by omega), hE, if_pos rfl, at_byte _ s (e + 1) h, hS, if_neg (by simp), if_neg (by omega)]
theorem end_last_yes (s : ByteArray) (e : Nat) (h : e < s.size) (hE : isE s[e] = true) (h1 : (s.size : Int) ≤ (e : Int) + 1) (hl : (e : Int) + 1 < (skip s.data.toList (e + 1) : Int)) :
    ((expo s.data.toList e : Nat) : Int) = (skip s.data.toList (e + 1) : Int) := by
  unfold expo
  rw [at_byte _ s e h, hE, if_pos rfl, at_past _ s (e + 1) (by omega), if_neg (by simp), if_pos (by omega)]
theorem end_last_no (s : ByteArray) (e : Nat) (h1 : (s.size : Int) ≤ (e : Int) + 1) (hl : (skip s.data.toList (e + 1) : Int) ≤ (e : Int) + 1) :
    ((expo s.data.toList e : Nat) : Int) = (e : Int) := by
  unfold expo
  rw [at_past sgn s (e + 1) (by omega)]
  split
  · rw [if_neg (by simp), if_neg (by omega)]
  · rfl
theorem end_none (s : ByteArray) (e : Nat) (h : e < s.size) (hE : isE s[e] = false) : ((expo s.data.toList e : Nat) : Int) = (e : Int) := by
  unfold expo
  rw [at_byte _ s e h, hE, if_neg (by simp)]
theorem end_past (s : ByteArray) (e : Nat) (h : s.size ≤ e) : ((expo s.data.toList e : Nat) : Int) = (e : Int) := by
  unfold expo
  rw [at_past _ s e h, if_neg (by simp)]

theorem num_dot (l : List UInt8) (i e f : Nat) (he : skip l i = e) (hf : skip l (e + 1) = f) (hd : at? isDot l e = true) (h0 : ¬ (e = i ∧ f = e + 1)) : numEnd l i = expo l f := by
  unfold numEnd
  rw [he, hd, if_pos rfl, hf, if_neg h0]
theorem num_dot0 (l : List UInt8) (i : Nat) (he : skip l i = i) (hf : skip l (i + 1) = i + 1) : numEnd l i = i := by
  unfold numEnd
  rw [he, hf]
  simp
theorem num_bare (l : List UInt8) (i e : Nat) (he : skip l i = e) (hd : at? isDot l e = false) (h0 : ¬ e = i) : numEnd l i = expo l e := by
  unfold numEnd
  rw [he, hd, if_neg (by simp), if_neg h0]
theorem num_bare0 (l : List UInt8) (i : Nat) (he : skip l i = i) (hd : at? isDot l i = false) : numEnd l i = i := by
  unfold numEnd
  rw [he, hd]
  simp
end Pl

theorem sign_any (c : UInt8) (w : World) :
    Calls Try.prog 28 #[.int .u8 (c.toNat : Int)] w fun e w' => e = .returned (.bool (Pl.sgn c)) ∧ w' = w := by
  by_cases h1 : (c.toNat : Int) = 43
  · go_enter Try.func28, Try.ntmps28
    go_wp2
    go_ret
    exact ⟨by simp [Pl.sgn, h1], rfl⟩
  · by_cases h2 : (c.toNat : Int) = 45
    · go_enter Try.func28, Try.ntmps28
      go_wp2
      go_ret
      exact ⟨by simp [Pl.sgn, h2], rfl⟩
    · go_enter Try.func28, Try.ntmps28
      go_wp2
      go_ret
      exact ⟨by simp [Pl.sgn, h1, h2], rfl⟩

set_option maxHeartbeats 2000000 in
theorem num_nat (s : ByteArray) (i : Nat) (w : World) (hs : s.size ≤ 4194304) (hi : i ≤ s.size) :
    Calls Try.prog 13 #[.string s, .int .i64 i] w fun e w' => e = .returned (.int .i64 (Pl.numEnd s.data.toList i : Nat)) ∧ w' = w := by
  have hm : s.size ≤ maxLen := by unfold maxLen; omega
  go_enter Try.func13, Try.ntmps13
  go_wp2_with fail
  refine (skip_nat s i _ hm hi).mono ?_
  rintro e w' ⟨rfl, rfl⟩
  have g1 := Pl.skip_ge s.data.toList i
  have g2 : Pl.skip s.data.toList i ≤ s.size := by have := Pl.skip_le s.data.toList i (by simpa using hi); simpa using this
  generalize he : Pl.skip s.data.toList i = e at *
  have HE : Hid (Pl.skip s.data.toList i = e) := he
  clear he
  by_cases hlt : e < s.size
  · cases hdot : ((s[e].toNat : Int) == 46)
    · have Hdot : Hid (Pl.at? Pl.isDot s.data.toList e = false) := by show _ = _; rw [Pl.at_byte _ s e hlt]; exact Pl.isDot_no hdot
      by_cases h0 : e = i
      · subst h0
        have HF : Hid (Pl.numEnd s.data.toList e = e) := Pl.num_bare0 _ _ HE.out Hdot.out
        clear HE Hdot
        go_wp2_with fail
        go_ret
        exact ⟨ret_int (by rw [HF.out]), rfl⟩
      · have HF : Hid (Pl.numEnd s.data.toList i = Pl.expo s.data.toList e) := Pl.num_bare _ _ _ HE.out Hdot.out h0
        clear HE Hdot
        have hz : ((e : Int) - (i : Int) == 0) = false := by rw [beq_eq_false_iff_ne]; omega
        clear h0
        go_wp2_with (first
          | (go_at_call 28; refine (sign_any _ _).mono ?_; rintro e w' ⟨rfl, rfl⟩)
          | (go_at_call 27; refine (skip_any s _ _ hm (by omega) (by omega)).mono ?_; rintro e w' ⟨rfl, rfl⟩))
        all_goals
          go_ret
          refine ⟨ret_int ?_, rfl⟩
          rw [HF.out]
        all_goals first
          | exact (Pl.end_sgn_yes s e (by omega) (by first | exact Pl.isE_one ‹_› | exact Pl.isE_two ‹_›) ‹_› ‹_›).symm
          | exact (Pl.end_sgn_no s e (by omega) (by first | exact Pl.isE_one ‹_› | exact Pl.isE_two ‹_›) ‹_› ‹_›).symm
          | exact (Pl.end_bare_yes s e (by omega) (by first | exact Pl.isE_one ‹_› | exact Pl.isE_two ‹_›) ‹_› ‹_›).symm
          | exact (Pl.end_bare_no s e (by omega) (by first | exact Pl.isE_one ‹_› | exact Pl.isE_two ‹_›) ‹_› ‹_›).symm
          | exact (Pl.end_last_yes s e (by omega) (by first | exact Pl.isE_one ‹_› | exact Pl.isE_two ‹_›) ‹_› ‹_›).symm
          | exact (Pl.end_last_no s e (by omega) ‹_›).symm
          | exact (Pl.end_none s e (by omega) (Pl.isE_not ‹_›)).symm
    · have Hdot : Hid (Pl.at? Pl.isDot s.data.toList e = true) := by show _ = _; rw [Pl.at_byte _ s e hlt]; exact Pl.isDot_yes hdot
      go_wp2_with fail
      refine (skip_any s _ _ hm (by omega) (by omega)).mono ?_
      rintro e' w' ⟨rfl, rfl⟩
      rw [show ((e : Int) + 1).toNat = e + 1 from by omega]
      have f1 := Pl.skip_ge s.data.toList (e + 1)
      have f2 : Pl.skip s.data.toList (e + 1) ≤ s.size := by have := Pl.skip_le s.data.toList (e + 1) (by rw [Array.length_toList]; exact hlt); simpa using this
      generalize hf : Pl.skip s.data.toList (e + 1) = f at *
      by_cases h0 : e = i ∧ f = e + 1
      · obtain ⟨rfl, rfl⟩ := h0
        have HF : Hid (Pl.numEnd s.data.toList e = e) := Pl.num_dot0 _ _ HE.out hf
        clear HE Hdot hf
        go_wp2_with fail
        go_ret
        exact ⟨ret_int (by rw [HF.out]), rfl⟩
      · have HF : Hid (Pl.numEnd s.data.toList i = Pl.expo s.data.toList f) := Pl.num_dot _ _ _ _ HE.out hf Hdot.out h0
        clear HE Hdot hf
        have hz : ((e : Int) - (i : Int) + ((f : Int) - ((e : Int) + 1)) == 0) = false := by rw [beq_eq_false_iff_ne]; omega
        clear h0
        by_cases hft : f < s.size
        · skip
          go_wp2_with (first
            | (go_at_call 28; refine (sign_any _ _).mono ?_; rintro e w' ⟨rfl, rfl⟩)
            | (go_at_call 27; refine (skip_any s _ _ hm (by omega) (by omega)).mono ?_; rintro e w' ⟨rfl, rfl⟩))
          all_goals
            go_ret
            refine ⟨ret_int ?_, rfl⟩
            rw [HF.out]
          all_goals first
            | exact (Pl.end_sgn_yes s f (by omega) (by first | exact Pl.isE_one ‹_› | exact Pl.isE_two ‹_›) ‹_› ‹_›).symm
            | exact (Pl.end_sgn_no s f (by omega) (by first | exact Pl.isE_one ‹_› | exact Pl.isE_two ‹_›) ‹_› ‹_›).symm
            | exact (Pl.end_bare_yes s f (by omega) (by first | exact Pl.isE_one ‹_› | exact Pl.isE_two ‹_›) ‹_› ‹_›).symm
            | exact (Pl.end_bare_no s f (by omega) (by first | exact Pl.isE_one ‹_› | exact Pl.isE_two ‹_›) ‹_› ‹_›).symm
            | exact (Pl.end_last_yes s f (by omega) (by first | exact Pl.isE_one ‹_› | exact Pl.isE_two ‹_›) ‹_› ‹_›).symm
            | exact (Pl.end_last_no s f (by omega) ‹_›).symm
            | exact (Pl.end_none s f (by omega) (Pl.isE_not ‹_›)).symm
        · go_wp2_with fail
          go_ret
          exact ⟨ret_int (by rw [HF.out]; exact (Pl.end_past s f (by omega)).symm), rfl⟩
  · have Hdot : Hid (Pl.at? Pl.isDot s.data.toList e = false) := Pl.at_past _ s e (by omega)
    by_cases h0 : e = i
    · subst h0
      have HF : Hid (Pl.numEnd s.data.toList e = e) := Pl.num_bare0 _ _ HE.out Hdot.out
      clear HE Hdot
      go_wp2_with fail
      go_ret
      exact ⟨ret_int (by rw [HF.out]), rfl⟩
    · have HF : Hid (Pl.numEnd s.data.toList i = Pl.expo s.data.toList e) := Pl.num_bare _ _ _ HE.out Hdot.out h0
      clear HE Hdot
      have hz : ((e : Int) - (i : Int) == 0) = false := by rw [beq_eq_false_iff_ne]; omega
      clear h0
      go_wp2_with fail
      go_ret
      exact ⟨ret_int (by rw [HF.out]; exact (Pl.end_past s e (by omega)).symm), rfl⟩

theorem num_is (s : ByteArray) (a v : Int) (w : World) (hs : s.size ≤ 4194304) (h0 : 0 ≤ a) (h1 : a ≤ s.size) (hv : ((Pl.numEnd s.data.toList a.toNat : Nat) : Int) = v) :
    Calls Try.prog 13 #[.string s, .int .i64 a] w fun e w' => e = .returned (.int .i64 v) ∧ w' = w := by
  obtain ⟨n, rfl⟩ := Int.eq_ofNat_of_zero_le h0
  rw [Int.toNat_natCast] at hv
  subst hv
  exact num_nat s n w hs (by omega)

theorem zzskip_is (s : ByteArray) (a v : Int) (w : World) (hs : s.size ≤ maxLen) (h0 : 0 ≤ a) (h1 : a ≤ s.size) (hv : ((Pl.skip s.data.toList a.toNat : Nat) : Int) = v) :
    Calls Try.prog 17 #[.string s, .int .i64 a] w fun e w' => e = .returned (.int .i64 v) ∧ w' = w := by
  subst hv
  exact zzskip_any s a w hs h0 h1

end Go.Proofs.Qxb6000606a
