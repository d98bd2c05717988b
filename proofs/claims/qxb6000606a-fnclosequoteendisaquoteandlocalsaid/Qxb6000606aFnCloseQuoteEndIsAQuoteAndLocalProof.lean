/-
  'Rows.FnCloseQuoteEndIsAQuoteAndLocalSaid', proved: the guide's own frame, the walk filled; the closed facts of the row by Qxb6000606aHead.
-/
import Derived.Test.Qxb6000606aRows
import Derived.WalkKit
import Derived.ProofKit
import Derived.OpenShut
import Derived.ShutString
import Derived.Test.Qxb6000606aHead
import Derived.Test.Qxb6000606aWalkQuote
namespace Go.Proofs.Qxb6000606a.fnCloseQuoteEndIsAQuoteAndLocal
open Go.ChangeShapes Go.WideShapes Go.ChangeAt Go.RowKit
open Go.ChangeMaps (open_string shut_string)
set_option linter.unusedVariables false      -- a walk need not use every 'w<i>' (that an integer argument fits its kind)

theorem own : ownKnob Try.prog.godebug = none := by kernel_rfl

/-! ### STEP 1: THE WALK: the Go text returns true. 'Grown w w'': the world has at most new blocks (Derived/RowKit3.lean). Part the cases AHEAD of 'go_enter' where a test parts the walk; take each callee by a contract of your own. -/
theorem walk (a0 : ByteArray) (a1 : Int) (a2 : Bool) (a3 : ByteArray) (w0 : a0.size ≤ maxLen) (w1 : (Lit.int .i64 a1).wf = true) (w3 : a3.size ≤ maxLen) (w : World) :
    Calls Try.prog 10 #[.string a0, .int .i64 a1, .bool a2, .string a3] w fun e w' => e = .returned (.bool true) ∧ Grown w w' := by
  by_cases hg : (a0.size : Int) + (a3.size : Int) ≤ 1048576
  · by_cases hs : (a0.size : Int) ≤ 524288
    · by_cases ht : (a3.size : Int) ≤ 524288
      · by_cases hneg : a1 < 0
        · go_enter Try.func10, Try.ntmps10
          go_wp2_with (go_at_call 25; refine (bytes25 _ _ _ _ _ hg).mono ?_; rintro e w' ⟨rfl, rfl⟩)
          go_ret
          exact ⟨rfl, Grown.refl _⟩
        · by_cases hbig : (a0.size : Int) ≤ a1
          · go_enter Try.func10, Try.ntmps10
            go_wp2_with (go_at_call 25; refine (bytes25 _ _ _ _ _ hg).mono ?_; rintro e w' ⟨rfl, rfl⟩)
            go_ret
            exact ⟨rfl, Grown.refl _⟩
          · obtain ⟨o, rfl⟩ := Int.eq_ofNat_of_zero_le (show 0 ≤ a1 by omega)
            have ho : o < a0.size := by omega
            have HQ : Hid (a0.data.toList[o]? = some a0[o]) := Pl.get_of_lt a0 o ho
            go_enter Try.func10, Try.ntmps10
            go_wp2_with (go_at_call 25; refine (bytes25 _ _ _ _ _ hg).mono ?_; rintro e w' ⟨rfl, rfl⟩)
            by_cases hr : Pl.closeAt a0.data.toList a0[o] a2 (o + 1) = -1
            · have HN : Hid (Pl.closeAt (a0.data.toList.drop o) a0[o] a2 1 = -1) := Pl.close_none _ _ _ _ hr
              refine (zzclose_is a0 _ _ a0[o] (-1) _ (by omega) (by omega) (by omega) (by rw [Int.toNat_natCast]; exact HQ.out) (by rw [Int.toNat_natCast]; exact hr)).mono ?_
              rintro e w' ⟨rfl, rfl⟩
              clear hr
              go_wp2_with fail
              refine (zzclose_is _ _ _ a0[o] (-1) _ (by simp; omega) (by omega) (by simp; omega) (by rw [Pl.ext_tail, List.getElem?_drop]; exact HQ.out) (by rw [Pl.ext_tail]; exact HN.out)).mono ?_
              rintro e w' ⟨rfl, rfl⟩
              go_wp2_with fail
              go_ret
              exact ⟨rfl, Grown.refl _⟩
            · obtain ⟨r, e1, e2, e3, e4, e5, e6⟩ := Pl.close_some _ _ _ _ (by simpa using ho) hr
              obtain ⟨p, rfl⟩ : ∃ p, r = p + 1 := ⟨r - 1, by omega⟩
              have hp : p < a0.size := by have : p + 1 ≤ a0.size := by simpa using e3
                                          omega
              have hpo : o < p := by omega
              have hx : ((a0[p].toNat : Int) != (a0[o].toNat : Int)) = false := by
                rw [Nat.add_sub_cancel, Pl.get_of_lt a0 p hp, Option.some.injEq] at e4
                rw [e4]
                simp
              have E5 : Hid (Pl.closeAt (a0.data.toList.drop o) a0[o] a2 1 = ((p : Int) + 1) - (o : Int)) := by rw [show ((p : Int) + 1) = ((p + 1 : Nat) : Int) from by omega]; exact e5
              have E6 : Hid (∀ t : List UInt8, (∀ d, t[0]? = some d → d ≠ a0[o]) → Pl.closeAt (a0.data.toList.take (p + 1) ++ t) a0[o] a2 (o + 1) = (p : Int) + 1) := by rw [show ((p : Int) + 1) = ((p + 1 : Nat) : Int) from by omega]; exact e6
              refine (zzclose_is a0 _ _ a0[o] ((p : Int) + 1) _ (by omega) (by omega) (by omega) (by rw [Int.toNat_natCast]; exact HQ.out) (by rw [Int.toNat_natCast, e1]; omega)).mono ?_
              rintro e w' ⟨rfl, rfl⟩
              clear e1 hr e5 e4 e6 e3 e2
              have hne : ((p : Int) + 1 == -1) = false := by rw [beq_eq_false_iff_ne]; omega
              go_wp2_with fail
              go_quiet (fail)
              go_wp2_with fail
              refine (zzclose_is _ _ _ a0[o] ((p : Int) + 1 - (o : Int)) _ (by simp; omega) (by omega) (by simp; omega) (by rw [Pl.ext_tail, List.getElem?_drop]; exact HQ.out) (by rw [Pl.ext_tail]; exact E5.out)).mono ?_
              rintro e w' ⟨rfl, rfl⟩
              go_wp2_with fail
              refine (zzclose_is _ _ _ a0[o] ((p : Int) + 1) _ (by simp; omega) (by omega) (by simp; omega) (by rw [Pl.ext_head, Int.toNat_natCast, List.getElem?_take, if_pos (by omega)]; exact HQ.out)
                (by rw [Pl.ext_head, Int.toNat_natCast]; have := E6.out [] (by simp); rwa [List.append_nil] at this)).mono ?_
              rintro e w' ⟨rfl, rfl⟩
              go_wp2_with fail
              by_cases ht0 : (0 : Int) < (a3.size : Int)
              · have hz : 0 < a3.size := by omega
                cases hb : ((a3[0].toNat : Int) == (a0[o].toNat : Int))
                · have E7 : Hid (Pl.closeAt (a0.data.toList.take (p + 1) ++ a3.data.toList) a0[o] a2 (o + 1) = (p : Int) + 1) := by
                    refine E6.out _ ?_
                    intro d hd
                    rw [Pl.get_of_lt a3 0 hz, Option.some.injEq] at hd
                    rw [← hd]
                    exact Pl.byte_ne hb
                  go_quiet (fail)
                  go_wp2_with fail
                  refine (zzclose_is _ _ _ a0[o] ((p : Int) + 1) _ (by simp; omega) (by omega) (by simp; omega) (by rw [Pl.app_head, Int.toNat_natCast]; exact Pl.get_app _ _ _ _ _ (by omega) HQ.out) (by rw [Pl.app_head, Int.toNat_natCast]; exact E7.out)).mono ?_
                  rintro e w' ⟨rfl, rfl⟩
                  go_wp2_with fail
                  go_ret
                  exact ⟨by simp, Pl.grown_drewN _ _⟩
                · go_quiet (fail)
                  go_wp2_with fail
                  go_ret
                  exact ⟨rfl, Pl.grown_drewN _ _⟩
              · have hd : decide (0 < a3.size) = false := decide_eq_false (by omega)
                have E7 : Hid (Pl.closeAt (a0.data.toList.take (p + 1) ++ a3.data.toList) a0[o] a2 (o + 1) = (p : Int) + 1) := by
                  refine E6.out _ ?_
                  intro d hd
                  rw [List.getElem?_eq_none (by rw [Array.length_toList]; show a3.size ≤ 0; omega)] at hd
                  cases hd
                go_quiet (fail)
                go_wp2_with fail
                refine (zzclose_is _ _ _ a0[o] ((p : Int) + 1) _ (by simp; omega) (by omega) (by simp; omega) (by rw [Pl.app_head, Int.toNat_natCast]; exact Pl.get_app _ _ _ _ _ (by omega) HQ.out) (by rw [Pl.app_head, Int.toNat_natCast]; exact E7.out)).mono ?_
                rintro e w' ⟨rfl, rfl⟩
                go_wp2_with fail
                go_ret
                exact ⟨by simp, Pl.grown_drewN _ _⟩
      · go_enter Try.func10, Try.ntmps10
        go_wp2_with (go_at_call 25; refine (bytes25 _ _ _ _ _ hg).mono ?_; rintro e w' ⟨rfl, rfl⟩)
        go_ret
        exact ⟨rfl, Grown.refl _⟩
    · go_enter Try.func10, Try.ntmps10
      go_wp2_with (go_at_call 25; refine (bytes25 _ _ _ _ _ hg).mono ?_; rintro e w' ⟨rfl, rfl⟩)
      go_ret
      exact ⟨rfl, Grown.refl _⟩
  · go_enter Try.func10, Try.ntmps10
    go_wp2_with (go_at_call 25; refine (bytes25_no _ _ _ _ _ w0 w3 hg).mono ?_; rintro e w' ⟨rfl, rfl⟩)
    go_ret
    exact ⟨rfl, Grown.refl _⟩

/-! ### THE ROW's STEP: WRITTEN OUT: LEAVE IT -/
set_option maxRecDepth 100000 in
theorem lifted (os : Os) (started : os.Started) (H : Type) (enc : TypeId × Value → H) :
    ReturnsInHanded {} Try.checked os 10 .any (Rows.fnCloseQuoteEndIsAQuoteAndLocalSpec.pre6 enc Try.prog Try.f10 Rows.fnCloseQuoteEndIsAQuoteAndLocalRow.domain false) (Rows.fnCloseQuoteEndIsAQuoteAndLocalSpec.post enc Try.prog Try.f10 false true false false) := by
  refine returnsInHanded_of_change (C := Try.checked) own started (by kernel_rfl) Try.func10
    (ChangeSpec.witness6 (enc := enc) (C := Try.checked) false ⟨#[], #[.string ByteArray.empty, .int .i64 0, .bool false, .string ByteArray.empty], []⟩ 8 (by kernel_rfl) (by kernel_rfl) (by kernel_rfl) (by kernel_rfl)) ?_
  intro W base args ds gs before hval0 hW hcnd _
  have hval : ∀ (j : Nat) t v, Try.f10.params[j]? = some t → args[j]? = some v → Value.okWide Try.prog W .any base t v := hval0
  have hW' := hW
  obtain ⟨p, q, hA0, hV, rfl, hfz, hnd⟩ := hW
  have hA : DataW.TrodAll enc Try.prog W 0 (fun _ => true) true Try.f10.params.toList args.toList ds p := hA0
  rw [Try.params10] at hA hval
  obtain ⟨v0, vs0, d0, ds0, p0, q0, hargs, rfl, rfl, h0, r0⟩ := trodAll_cons hA
  obtain ⟨v1, vs1, d1, ds1, p1, q1, rfl, rfl, rfl, h1, r1⟩ := trodAll_cons r0
  obtain ⟨v2, vs2, d2, ds2, p2, q2, rfl, rfl, rfl, h2, r2⟩ := trodAll_cons r1
  obtain ⟨v3, vs3, d3, ds3, p3, q3, rfl, rfl, rfl, h3, r3⟩ := trodAll_cons r2
  obtain ⟨rfl, rfl, rfl⟩ := trodAll_nil r3
  obtain rfl : args = #[v0, v1, v2, v3] := by cases args; simp_all
  obtain ⟨rfl, rfl⟩ := trodVars_none hV
  obtain ⟨a0, rfl, rfl, rfl, w0⟩ := open_string Try.underlying9 (hval 0 9 v0 rfl rfl) h0
  obtain ⟨a1, rfl, rfl, rfl, w1⟩ := open_int Try.underlying3 (hval 1 3 v1 rfl rfl) h1
  obtain ⟨a2, rfl, rfl, rfl⟩ := open_bool Try.underlying4 (hval 2 4 v2 rfl rfl) h2
  obtain ⟨a3, rfl, rfl, rfl, w3⟩ := open_string Try.underlying9 (hval 3 9 v3 rfl rfl) h3
  clear hA0 hval0
  simp only [List.append_nil] at hW'
  refine (walk a0 a1 a2 a3 w0 w1 w3 W).mono fun e W' ⟨he, hg⟩ => ?_
  subst he
  exact ⟨_, rfl, post_of_same (pa := []) (pv := []) hW' (fun _ _ _ => (trodAll_cons_mk (shut_bool Try.underlying4 _) trodAll_mk0)) (fun sp _ => (trodAll_cons_mk (shut_string Try.underlying9 w0) (trodAll_cons_mk (shut_int Try.underlying3 w1) (trodAll_cons_mk (shut_bool Try.underlying4 _) (trodAll_cons_mk (shut_string Try.underlying9 w3) trodAll_mk0))))) (fun _ _ => rfl) rfl
    (hg.frame _) hg.2.1 (ok_one (by kernel_rfl) rfl (okWide_bool_mk Try.underlying4 _))⟩

theorem closed : joinedFacts Try.pinned.checked.prog 10 Try.f10 Rows.fnCloseQuoteEndIsAQuoteAndLocalSpec Rows.fnCloseQuoteEndIsAQuoteAndLocalRow = true := by
  unfold joinedFacts
  rw [Head.mayEnter, Head.liftsFinal, Head.make]
  kernel_rfl

theorem over : Rows.fnCloseQuoteEndIsAQuoteAndLocalRow.holds Try.pinned (OpenSpec.ofChange Rows.fnCloseQuoteEndIsAQuoteAndLocalSpec) :=
  OpenClaim.holds_of_wide 10 Try.f10 rfl rfl rfl rfl rfl rfl rfl ⟨rfl, rfl, rfl, rfl, rfl⟩ rfl rfl rfl rfl rfl (by kernel_rfl) Try.func10 closed
    (of_decide_eq_true (by kernel_rfl)) (by unfold Func.isWrapper; first | (rw [if_pos (by decide +kernel)]; kernel_rfl) | (rw [if_neg (by decide +kernel)]; exact ⟨rfl, rfl⟩))
    (fun os started H enc _ => lifted os started H enc)

/-- ████ THE STATEMENT ████ -/
theorem proved : Rows.FnCloseQuoteEndIsAQuoteAndLocalSaid :=
  over
#print axioms proved
end Go.Proofs.Qxb6000606a.fnCloseQuoteEndIsAQuoteAndLocal
