/-
  'Rows.FnSkipDigitsStopsAtFirstNonDigitSaid', proved: the guide's own frame, the walk filled; the closed facts of the row by Qxb6000606aHead.
-/
import Derived.Test.Qxb6000606aRows
import Derived.WalkKit
import Derived.ProofKit
import Derived.OpenShut
import Derived.ShutString
import Derived.Test.Qxb6000606aHead
import Derived.Test.Qxb6000606aWalkDigit
namespace Go.Proofs.Qxb6000606a.fnSkipDigitsStopsAtFirstNonDigit
open Go.ChangeShapes Go.WideShapes Go.ChangeAt Go.RowKit
open Go.ChangeMaps (open_string shut_string)
set_option linter.unusedVariables false      -- a walk need not use every 'w<i>' (that an integer argument fits its kind)

theorem own : ownKnob Try.prog.godebug = none := by kernel_rfl

/-! ### STEP 1: THE WALK: the Go text returns true. 'Grown w w'': the world has at most new blocks (Derived/RowKit3.lean). Part the cases AHEAD of 'go_enter' where a test parts the walk; take each callee by a contract of your own. -/
theorem skip_byte (s : ByteArray) (i k r : Nat) (hr : Pl.skip s.data.toList i = r) (h1 : i ≤ k) (h2 : k < r) (hk : k < s.size) : Pl.dig s[k] = true := by
  obtain ⟨c, hc, hd⟩ := Pl.skip_dig s.data.toList i k h1 (by omega)
  rw [Pl.get_of_lt s k hk, Option.some.injEq] at hc
  rw [hc]
  exact hd

theorem skip_last (s : ByteArray) (i r : Nat) (hr : Pl.skip s.data.toList i = r) (hk : r < s.size) : Pl.dig s[r] = false :=
  Pl.skip_not s.data.toList i _ (by rw [hr]; exact Pl.get_of_lt s r hk)

theorem walk (a0 : ByteArray) (a1 : Int) (w0 : a0.size ≤ maxLen) (w1 : (Lit.int .i64 a1).wf = true) (w : World) :
    Calls Try.prog 6 #[.string a0, .int .i64 a1] w fun e w' => e = .returned (.bool true) ∧ Grown w w' := by
  by_cases hl : (a0.size : Int) ≤ 1048576
  · by_cases hneg : a1 < 0
    · go_enter Try.func6, Try.ntmps6
      go_wp2_with (go_at_call 18; refine (bytes18 _ _ _ hl).mono ?_; rintro e w' ⟨rfl, rfl⟩)
      go_ret
      exact ⟨rfl, Grown.refl _⟩
    · by_cases hbig : (a0.size : Int) < a1
      · go_enter Try.func6, Try.ntmps6
        go_wp2_with (go_at_call 18; refine (bytes18 _ _ _ hl).mono ?_; rintro e w' ⟨rfl, rfl⟩)
        go_ret
        exact ⟨rfl, Grown.refl _⟩
      · obtain ⟨i, rfl⟩ := Int.eq_ofNat_of_zero_le (show 0 ≤ a1 by omega)
        have g1 := Pl.skip_ge a0.data.toList i
        have g2 := Pl.skip_le a0.data.toList i (by simp; omega)
        have g3 : Pl.skip a0.data.toList i ≤ a0.size := by simpa using g2
        clear g2
        generalize hr : Pl.skip a0.data.toList i = r at *
        have HR : Hid (Pl.skip a0.data.toList i = r) := hr
        clear hr
        have d1 : decide (r < i) = false := decide_eq_false (by omega)
        have d2 : decide (a0.size < r) = false := decide_eq_false (by omega)
        have d3 : decide ((i : Int) < 0) = false := decide_eq_false (by omega)
        have d4 : decide (a0.size < i) = false := decide_eq_false (by omega)
        have d5 : decide ((1048576 : Int) < (a0.size : Int)) = false := decide_eq_false (by omega)
        go_enter Try.func6, Try.ntmps6
        go_wp2_with (go_at_call 18; refine (bytes18 _ _ _ hl).mono ?_; rintro e w' ⟨rfl, rfl⟩)
        refine (zzskip_as a0 _ (r : Int) _ w0 (by omega) (by omega) (by rw [Int.toNat_natCast, HR.out])).mono ?_
        rintro e w' ⟨rfl, rfl⟩
        go_wp2_with fail
        go_loop [6] (fun t => ∃ k : Nat, i ≤ k ∧ k ≤ r ∧ t = .int .i64 k) (fun t => r - (intOf t).toNat)
        case atStart => exact ⟨i, Nat.le_refl _, g1, rfl⟩
        case round =>
          obtain ⟨k, hk1, hk2, rfl⟩ := hrel
          by_cases hk : k < r
          · have hks : k < a0.size := by omega
            go_wp2_with (go_at_call 19; refine (digit_is _ true _ (skip_byte a0 i k r HR.out hk1 hk hks)).mono ?_; rintro e w' ⟨rfl, rfl⟩)
            go_round
            case rel => exact ⟨k + 1, by omega, by omega, by go_num⟩
            case measure => simp [intOf]; omega
          · by_cases hre : r < a0.size
            · have he : ((r : Int) == (a0.size : Int)) = false := by rw [beq_eq_false_iff_ne]; omega
              go_wp2_with (go_at_call 19; refine (digit_is _ false _ (skip_last a0 i r HR.out hre)).mono ?_; rintro e w' ⟨rfl, rfl⟩)
              go_ret
              exact ⟨rfl, Grown.refl _⟩
            · have he : ((r : Int) == (a0.size : Int)) = true := by rw [beq_iff_eq]; omega
              go_wp2_with fail
              go_ret
              exact ⟨rfl, Grown.refl _⟩
  · go_enter Try.func6, Try.ntmps6
    go_wp2_with (go_at_call 18; refine (bytes18_no _ _ _ hl).mono ?_; rintro e w' ⟨rfl, rfl⟩)
    go_ret
    exact ⟨rfl, Grown.refl _⟩

/-! ### THE ROW's STEP: WRITTEN OUT: LEAVE IT -/
set_option maxRecDepth 100000 in
theorem lifted (os : Os) (started : os.Started) (H : Type) (enc : TypeId × Value → H) :
    ReturnsInHanded {} Try.checked os 6 .any (Rows.fnSkipDigitsStopsAtFirstNonDigitSpec.pre6 enc Try.prog Try.f6 Rows.fnSkipDigitsStopsAtFirstNonDigitRow.domain false) (Rows.fnSkipDigitsStopsAtFirstNonDigitSpec.post enc Try.prog Try.f6 false true false false) := by
  refine returnsInHanded_of_change (C := Try.checked) own started (by kernel_rfl) Try.func6
    (ChangeSpec.witness6 (enc := enc) (C := Try.checked) false ⟨#[], #[.string ByteArray.empty, .int .i64 0], []⟩ 8 (by kernel_rfl) (by kernel_rfl) (by kernel_rfl) (by kernel_rfl)) ?_
  intro W base args ds gs before hval0 hW hcnd _
  have hval : ∀ (j : Nat) t v, Try.f6.params[j]? = some t → args[j]? = some v → Value.okWide Try.prog W .any base t v := hval0
  have hW' := hW
  obtain ⟨p, q, hA0, hV, rfl, hfz, hnd⟩ := hW
  have hA : DataW.TrodAll enc Try.prog W 0 (fun _ => true) true Try.f6.params.toList args.toList ds p := hA0
  rw [Try.params6] at hA hval
  obtain ⟨v0, vs0, d0, ds0, p0, q0, hargs, rfl, rfl, h0, r0⟩ := trodAll_cons hA
  obtain ⟨v1, vs1, d1, ds1, p1, q1, rfl, rfl, rfl, h1, r1⟩ := trodAll_cons r0
  obtain ⟨rfl, rfl, rfl⟩ := trodAll_nil r1
  obtain rfl : args = #[v0, v1] := by cases args; simp_all
  obtain ⟨rfl, rfl⟩ := trodVars_none hV
  obtain ⟨a0, rfl, rfl, rfl, w0⟩ := open_string Try.underlying9 (hval 0 9 v0 rfl rfl) h0
  obtain ⟨a1, rfl, rfl, rfl, w1⟩ := open_int Try.underlying3 (hval 1 3 v1 rfl rfl) h1
  clear hA0 hval0
  simp only [List.append_nil] at hW'
  refine (walk a0 a1 w0 w1 W).mono fun e W' ⟨he, hg⟩ => ?_
  subst he
  exact ⟨_, rfl, post_of_same (pa := []) (pv := []) hW' (fun _ _ _ => (trodAll_cons_mk (shut_bool Try.underlying4 _) trodAll_mk0)) (fun sp _ => (trodAll_cons_mk (shut_string Try.underlying9 w0) (trodAll_cons_mk (shut_int Try.underlying3 w1) trodAll_mk0))) (fun _ _ => rfl) rfl
    (hg.frame _) hg.2.1 (ok_one (by kernel_rfl) rfl (okWide_bool_mk Try.underlying4 _))⟩

theorem closed : joinedFacts Try.pinned.checked.prog 6 Try.f6 Rows.fnSkipDigitsStopsAtFirstNonDigitSpec Rows.fnSkipDigitsStopsAtFirstNonDigitRow = true := by
  unfold joinedFacts
  rw [Head.mayEnter, Head.liftsFinal, Head.make]
  kernel_rfl

theorem over : Rows.fnSkipDigitsStopsAtFirstNonDigitRow.holds Try.pinned (OpenSpec.ofChange Rows.fnSkipDigitsStopsAtFirstNonDigitSpec) :=
  OpenClaim.holds_of_wide 6 Try.f6 rfl rfl rfl rfl rfl rfl rfl ⟨rfl, rfl, rfl, rfl, rfl⟩ rfl rfl rfl rfl rfl (by kernel_rfl) Try.func6 closed
    (of_decide_eq_true (by kernel_rfl)) (by unfold Func.isWrapper; first | (rw [if_pos (by decide +kernel)]; kernel_rfl) | (rw [if_neg (by decide +kernel)]; exact ⟨rfl, rfl⟩))
    (fun os started H enc _ => lifted os started H enc)

/-- ████ THE STATEMENT ████ -/
theorem proved : Rows.FnSkipDigitsStopsAtFirstNonDigitSaid :=
  over
#print axioms proved
end Go.Proofs.Qxb6000606a.fnSkipDigitsStopsAtFirstNonDigit
