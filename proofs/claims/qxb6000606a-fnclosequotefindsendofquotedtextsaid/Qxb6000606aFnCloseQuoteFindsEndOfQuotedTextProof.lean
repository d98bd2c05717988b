/-
  'Rows.FnCloseQuoteFindsEndOfQuotedTextSaid', proved: the guide's own frame, the walk filled; the closed facts of the row by Qxb6000606aHead.
-/
import Derived.Test.Qxb6000606aRows
import Derived.WalkKit
import Derived.ProofKit
import Derived.OpenShut
import Derived.ShutString
import Derived.ChangeOld
import Derived.Below
import Derived.Test.Qxb6000606aHead
import Derived.Test.Qxb6000606aTextFacts
namespace Go.Proofs.Qxb6000606a.fnCloseQuoteFindsEndOfQuotedText
open Go.ChangeShapes Go.WideShapes Go.ChangeAt Go.RowKit
open Go.ChangeMaps (open_string shut_string)
set_option linter.unusedVariables false      -- a walk need not use every 'w<i>' (that an integer argument fits its kind)

theorem own : ownKnob Try.prog.godebug = none := by kernel_rfl

/-! ### STEP 1: THE WALK: the Go text returns true. 'Grown w w'': the world has at most new blocks (Derived/RowKit3.lean). Part the cases AHEAD of 'go_enter' where a test parts the walk; take each callee by a contract of your own. -/
theorem walk (a0 : ByteArray) (a1 : ByteArray) (a2 : ByteArray) (a3 : Int) (a4 : Bool) (w0 : a0.size ≤ maxLen) (w1 : a1.size ≤ maxLen) (w2 : a2.size ≤ maxLen) (w3 : (Lit.int .u8 a3).wf = true) (w : World) :
    Calls Try.prog 9 #[.string a0, .string a1, .string a2, .int .u8 a3, .bool a4] w fun e w' => e = .returned (.bool true) ∧ Below w.heap.size w w' := by
  obtain ⟨q, rfl⟩ := Pl.byte_of w3
  clear w3
  by_cases hg : (a0.size : Int) + (a1.size : Int) + (a2.size : Int) ≤ 1048576
  · by_cases h0 : (a0.size : Int) ≤ 262144
    · by_cases h1 : (a1.size : Int) ≤ 262144
      · by_cases h2 : (a2.size : Int) ≤ 262144
        · cases a4
          · have HB : Hid ((false && Pl.isBs q) = false) := Pl.bs_no _
            by_cases ht0 : (0 : Int) < (a2.size : Int)
            · have hz : 0 < a2.size := by omega
              cases hx : ((a2[0].toNat : Int) == (q.toNat : Int))
              · have HS : Hid (∀ d, a2.data.toList[0]? = some d → d ≠ q) := Pl.head_ne a2 q hz hx
                go_enter Try.func9, Try.ntmps9
                go_wp2_with (go_at_call 22; refine (bytes22 _ _ _ _ _ _ hg).mono ?_; rintro e w' ⟨rfl, rfl⟩)
                refine (quote_any a1 q false _ (by omega)).mono ?_
                rintro e w1 ⟨rfl, hb1⟩
                obtain ⟨Q, m, HQ, hm, hQ1, hQ2, hQe⟩ := Pl.quoted_facts a1 q false (by omega)
                rw [hQe]
                clear hQe
                go_wp2_with fail
                refine (zzclose_is _ _ _ q ((a0.size : Int) + ((m : Int) + 1)) _ (by simp; omega) (by omega) (by simp; omega) (Pl.at_open a0 Q a2 q false _ HQ.out) (Pl.at_close a0 Q a2 q false _ m HQ.out (by omega) HB.out HS.out)).mono ?_
                rintro e w2 ⟨rfl, rfl⟩
                go_wp2_with fail
                refine (zzclose_is _ _ _ q (-1) _ (by simp; omega) (by omega) (by simp; omega) (Pl.at_open' a0 Q q false _ m HQ.out (by omega)) (Pl.at_none' a0 Q q false _ m HQ.out (by omega) HB.out)).mono ?_
                rintro e w2 ⟨rfl, rfl⟩
                go_wp2_with fail
                go_ret
                exact ⟨by simp, hb1⟩
              · go_enter Try.func9, Try.ntmps9
                go_wp2_with (go_at_call 22; refine (bytes22 _ _ _ _ _ _ hg).mono ?_; rintro e w' ⟨rfl, rfl⟩)
                go_ret
                exact ⟨rfl, Below.refl _ _⟩
            · have hd : decide (0 < a2.size) = false := decide_eq_false (by omega)
              have HS : Hid (∀ d, a2.data.toList[0]? = some d → d ≠ q) := Pl.head_none a2 q (by omega)
              go_enter Try.func9, Try.ntmps9
              go_wp2_with (go_at_call 22; refine (bytes22 _ _ _ _ _ _ hg).mono ?_; rintro e w' ⟨rfl, rfl⟩)
              refine (quote_any a1 q false _ (by omega)).mono ?_
              rintro e w1 ⟨rfl, hb1⟩
              obtain ⟨Q, m, HQ, hm, hQ1, hQ2, hQe⟩ := Pl.quoted_facts a1 q false (by omega)
              rw [hQe]
              clear hQe
              go_wp2_with fail
              refine (zzclose_is _ _ _ q ((a0.size : Int) + ((m : Int) + 1)) _ (by simp; omega) (by omega) (by simp; omega) (Pl.at_open a0 Q a2 q false _ HQ.out) (Pl.at_close a0 Q a2 q false _ m HQ.out (by omega) HB.out HS.out)).mono ?_
              rintro e w2 ⟨rfl, rfl⟩
              go_wp2_with fail
              refine (zzclose_is _ _ _ q (-1) _ (by simp; omega) (by omega) (by simp; omega) (Pl.at_open' a0 Q q false _ m HQ.out (by omega)) (Pl.at_none' a0 Q q false _ m HQ.out (by omega) HB.out)).mono ?_
              rintro e w2 ⟨rfl, rfl⟩
              go_wp2_with fail
              go_ret
              exact ⟨by simp, hb1⟩
          · cases h92 : ((q.toNat : Int) == 92)
            · have HB : Hid ((true && Pl.isBs q) = false) := Pl.bs_other h92
              by_cases ht0 : (0 : Int) < (a2.size : Int)
              · have hz : 0 < a2.size := by omega
                cases hx : ((a2[0].toNat : Int) == (q.toNat : Int))
                · have HS : Hid (∀ d, a2.data.toList[0]? = some d → d ≠ q) := Pl.head_ne a2 q hz hx
                  go_enter Try.func9, Try.ntmps9
                  go_wp2_with (go_at_call 22; refine (bytes22 _ _ _ _ _ _ hg).mono ?_; rintro e w' ⟨rfl, rfl⟩)
                  refine (quote_any a1 q true _ (by omega)).mono ?_
                  rintro e w1 ⟨rfl, hb1⟩
                  obtain ⟨Q, m, HQ, hm, hQ1, hQ2, hQe⟩ := Pl.quoted_facts a1 q true (by omega)
                  rw [hQe]
                  clear hQe
                  go_wp2_with fail
                  refine (zzclose_is _ _ _ q ((a0.size : Int) + ((m : Int) + 1)) _ (by simp; omega) (by omega) (by simp; omega) (Pl.at_open a0 Q a2 q true _ HQ.out) (Pl.at_close a0 Q a2 q true _ m HQ.out (by omega) HB.out HS.out)).mono ?_
                  rintro e w2 ⟨rfl, rfl⟩
                  go_wp2_with fail
                  refine (zzclose_is _ _ _ q (-1) _ (by simp; omega) (by omega) (by simp; omega) (Pl.at_open' a0 Q q true _ m HQ.out (by omega)) (Pl.at_none' a0 Q q true _ m HQ.out (by omega) HB.out)).mono ?_
                  rintro e w2 ⟨rfl, rfl⟩
                  go_wp2_with fail
                  go_ret
                  exact ⟨by simp, hb1⟩
                · go_enter Try.func9, Try.ntmps9
                  go_wp2_with (go_at_call 22; refine (bytes22 _ _ _ _ _ _ hg).mono ?_; rintro e w' ⟨rfl, rfl⟩)
                  go_ret
                  exact ⟨rfl, Below.refl _ _⟩
              · have hd : decide (0 < a2.size) = false := decide_eq_false (by omega)
                have HS : Hid (∀ d, a2.data.toList[0]? = some d → d ≠ q) := Pl.head_none a2 q (by omega)
                go_enter Try.func9, Try.ntmps9
                go_wp2_with (go_at_call 22; refine (bytes22 _ _ _ _ _ _ hg).mono ?_; rintro e w' ⟨rfl, rfl⟩)
                refine (quote_any a1 q true _ (by omega)).mono ?_
                rintro e w1 ⟨rfl, hb1⟩
                obtain ⟨Q, m, HQ, hm, hQ1, hQ2, hQe⟩ := Pl.quoted_facts a1 q true (by omega)
                rw [hQe]
                clear hQe
                go_wp2_with fail
                refine (zzclose_is _ _ _ q ((a0.size : Int) + ((m : Int) + 1)) _ (by simp; omega) (by omega) (by simp; omega) (Pl.at_open a0 Q a2 q true _ HQ.out) (Pl.at_close a0 Q a2 q true _ m HQ.out (by omega) HB.out HS.out)).mono ?_
                rintro e w2 ⟨rfl, rfl⟩
                go_wp2_with fail
                refine (zzclose_is _ _ _ q (-1) _ (by simp; omega) (by omega) (by simp; omega) (Pl.at_open' a0 Q q true _ m HQ.out (by omega)) (Pl.at_none' a0 Q q true _ m HQ.out (by omega) HB.out)).mono ?_
                rintro e w2 ⟨rfl, rfl⟩
                go_wp2_with fail
                go_ret
                exact ⟨by simp, hb1⟩
            · skip
              go_enter Try.func9, Try.ntmps9
              go_wp2_with (go_at_call 22; refine (bytes22 _ _ _ _ _ _ hg).mono ?_; rintro e w' ⟨rfl, rfl⟩)
              go_ret
              exact ⟨rfl, Below.refl _ _⟩
        · skip
          go_enter Try.func9, Try.ntmps9
          go_wp2_with (go_at_call 22; refine (bytes22 _ _ _ _ _ _ hg).mono ?_; rintro e w' ⟨rfl, rfl⟩)
          go_ret
          exact ⟨rfl, Below.refl _ _⟩
      · skip
        go_enter Try.func9, Try.ntmps9
        go_wp2_with (go_at_call 22; refine (bytes22 _ _ _ _ _ _ hg).mono ?_; rintro e w' ⟨rfl, rfl⟩)
        go_ret
        exact ⟨rfl, Below.refl _ _⟩
    · skip
      go_enter Try.func9, Try.ntmps9
      go_wp2_with (go_at_call 22; refine (bytes22 _ _ _ _ _ _ hg).mono ?_; rintro e w' ⟨rfl, rfl⟩)
      go_ret
      exact ⟨rfl, Below.refl _ _⟩
  · skip
    go_enter Try.func9, Try.ntmps9
    go_wp2_with (go_at_call 22; refine (bytes22_no _ _ _ _ _ _ w0 w1 w2 hg).mono ?_; rintro e w' ⟨rfl, rfl⟩)
    go_ret
    exact ⟨rfl, Below.refl _ _⟩

/-! ### THE ROW's STEP: WRITTEN OUT: LEAVE IT -/
set_option maxRecDepth 100000 in
theorem lifted (os : Os) (started : os.Started) (H : Type) (enc : TypeId × Value → H) :
    ReturnsInHanded {} Try.checked os 9 .any (Rows.fnCloseQuoteFindsEndOfQuotedTextSpec.pre6 enc Try.prog Try.f9 Rows.fnCloseQuoteFindsEndOfQuotedTextRow.domain false) (Rows.fnCloseQuoteFindsEndOfQuotedTextSpec.post enc Try.prog Try.f9 false true false false) := by
  refine returnsInHanded_of_change (C := Try.checked) own started (by kernel_rfl) Try.func9
    (ChangeSpec.witness6 (enc := enc) (C := Try.checked) false ⟨#[], #[.string ByteArray.empty, .string ByteArray.empty, .string ByteArray.empty, .int .u8 0, .bool false], []⟩ 8 (by kernel_rfl) (by kernel_rfl) (by kernel_rfl) (by kernel_rfl)) ?_
  intro W base args ds gs before hval0 hW hcnd _
  have hval : ∀ (j : Nat) t v, Try.f9.params[j]? = some t → args[j]? = some v → Value.okWide Try.prog W .any base t v := hval0
  have hW' := hW
  obtain ⟨p, q, hA0, hV, rfl, hfz, hnd⟩ := hW
  have hA : DataW.TrodAll enc Try.prog W 0 (fun _ => true) true Try.f9.params.toList args.toList ds p := hA0
  rw [Try.params9] at hA hval
  obtain ⟨v0, vs0, d0, ds0, p0, q0, hargs, rfl, rfl, h0, r0⟩ := trodAll_cons hA
  obtain ⟨v1, vs1, d1, ds1, p1, q1, rfl, rfl, rfl, h1, r1⟩ := trodAll_cons r0
  obtain ⟨v2, vs2, d2, ds2, p2, q2, rfl, rfl, rfl, h2, r2⟩ := trodAll_cons r1
  obtain ⟨v3, vs3, d3, ds3, p3, q3, rfl, rfl, rfl, h3, r3⟩ := trodAll_cons r2
  obtain ⟨v4, vs4, d4, ds4, p4, q4, rfl, rfl, rfl, h4, r4⟩ := trodAll_cons r3
  obtain ⟨rfl, rfl, rfl⟩ := trodAll_nil r4
  obtain rfl : args = #[v0, v1, v2, v3, v4] := by cases args; simp_all
  obtain ⟨rfl, rfl⟩ := trodVars_none hV
  obtain ⟨a0, rfl, rfl, rfl, w0⟩ := open_string Try.underlying9 (hval 0 9 v0 rfl rfl) h0
  obtain ⟨a1, rfl, rfl, rfl, w1⟩ := open_string Try.underlying9 (hval 1 9 v1 rfl rfl) h1
  obtain ⟨a2, rfl, rfl, rfl, w2⟩ := open_string Try.underlying9 (hval 2 9 v2 rfl rfl) h2
  obtain ⟨a3, rfl, rfl, rfl, w3⟩ := open_int Try.underlying5 (hval 3 5 v3 rfl rfl) h3
  obtain ⟨a4, rfl, rfl, rfl⟩ := open_bool Try.underlying4 (hval 4 4 v4 rfl rfl) h4
  clear hA0 hval0
  simp only [List.append_nil] at hW'
  refine (walk a0 a1 a2 a3 a4 w0 w1 w2 w3 W).mono fun e W' ⟨he, hg⟩ => ?_
  subst he
  exact ⟨_, rfl, _, _, _, [], [], [], hW', (trodAll_cons_mk (shut_bool Try.underlying4 _) trodAll_mk0), (trodAll_cons_mk (shut_string Try.underlying9 w0) (trodAll_cons_mk (shut_string Try.underlying9 w1) (trodAll_cons_mk (shut_string Try.underlying9 w2) (trodAll_cons_mk (shut_int Try.underlying5 w3) (trodAll_cons_mk (shut_bool Try.underlying4 _) trodAll_mk0))))), rfl, hg.frame _, fun h => by cases h⟩

theorem closed : joinedFacts Try.pinned.checked.prog 9 Try.f9 Rows.fnCloseQuoteFindsEndOfQuotedTextSpec Rows.fnCloseQuoteFindsEndOfQuotedTextRow = true := by
  unfold joinedFacts
  rw [Head.mayEnter, Head.liftsFinal, Head.make]
  kernel_rfl

theorem over : Rows.fnCloseQuoteFindsEndOfQuotedTextRow.holds Try.pinned (OpenSpec.ofChange Rows.fnCloseQuoteFindsEndOfQuotedTextSpec) :=
  OpenClaim.holds_of_wide 9 Try.f9 rfl rfl rfl rfl rfl rfl rfl ⟨rfl, rfl, rfl, rfl, rfl⟩ rfl rfl rfl rfl rfl (by kernel_rfl) Try.func9 closed
    (of_decide_eq_true (by kernel_rfl)) (by unfold Func.isWrapper; first | (rw [if_pos (by decide +kernel)]; kernel_rfl) | (rw [if_neg (by decide +kernel)]; exact ⟨rfl, rfl⟩))
    (fun os started H enc _ => lifted os started H enc)

/-- ████ THE STATEMENT ████ -/
theorem proved : Rows.FnCloseQuoteFindsEndOfQuotedTextSaid :=
  over
#print axioms proved
end Go.Proofs.Qxb6000606a.fnCloseQuoteFindsEndOfQuotedText
