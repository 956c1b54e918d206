/-
  THE PROOF OF 'Rows.FnCancelsFactorsByMethodSaid'. The frame is the guide's template, written by its tool; the walk and the plain law are ours.
-/
import Derived.Test.Qxb6617013aRows
import Derived.Test.Qxb6617013aWalks1
import Derived.WalkKit
import Derived.ProofKit
import Derived.OpenShut
import Derived.ShutString
namespace Go.Proofs.Qxb6617013a.fnCancelsFactorsByMethod
open Go.ChangeShapes Go.WideShapes Go.ChangeAt Go.RowKit
open Go.ChangeMaps (open_string shut_string)
set_option linter.unusedVariables false      -- a walk need not use every 'w<i>' (that an integer argument fits its kind)

theorem own : ownKnob Try.prog.godebug = none := by kernel_rfl

/-! ### THE PLAIN LAW: no Go in sight -/
theorem plain_a (m1 m2 : ByteArray) : (isC m1 && isI m2 && (isC m2 && isI m1)) = false := by
  cases h : isC m1 with
  | false => simp
  | true => rw [isC_isI m1 h]; simp

theorem can_is : isC ⟨#[67, 65, 78, 67, 69, 76]⟩ = true := by kernel_rfl
theorem inv_is : isI ⟨#[73, 78, 86, 73, 84, 69]⟩ = true := by kernel_rfl

/-! ### THE WALK WITHIN THE BOUNDS -/
set_option maxHeartbeats 2000000 in
theorem main (m1 m2 b s : ByteArray) (w : World) (z1 : m1.size ≤ 65536) (z2 : m2.size ≤ 65536) (z3 : b.size ≤ 65536) (z4 : s.size ≤ 65536) :
    Calls Try.prog 3 #[.string m1, .string m2, .string b, .string s] w fun e w' => e = .returned (.bool true) ∧ Grown w w' := by
  have HP : Hid ((isC m1 && isI m2 && (isC m2 && isI m1)) = false) := plain_a m1 m2
  obtain ⟨c1, H1⟩ : ∃ c1, Hid (isC m1 = c1) := ⟨_, rfl⟩
  obtain ⟨i2, H2⟩ : ∃ i2, Hid (isI m2 = i2) := ⟨_, rfl⟩
  obtain ⟨bk, HB⟩ : ∃ bk, Hid ((isC m2 && isI m1) = bk) := ⟨_, rfl⟩
  have E1 : Hid ((m1.toList == [67, 65, 78, 67, 69, 76]) = c1) := H1
  have E2 : Hid ((m2.toList == [73, 78, 86, 73, 84, 69]) = i2) := H2
  have HA : Hid ((isC m1 && isI m2) = (c1 && i2)) := by rw [H1.out, H2.out]; exact rfl
  have HT : Hid ((isC m1 && isI ⟨#[73, 78, 86, 73, 84, 69]⟩) = c1) := by rw [H1.out, inv_is]; exact Bool.and_true c1
  have HU : Hid ((isC ⟨#[67, 65, 78, 67, 69, 76]⟩ && isI m2) = i2) := by rw [H2.out, can_is]; exact Bool.true_and i2
  have HV : Hid ((isC ⟨#[67, 65, 78, 67, 69, 76]⟩ && isI ⟨#[73, 78, 86, 73, 84, 69]⟩) = true) := by rw [can_is, inv_is]; exact rfl
  have HZ : Hid (((c1 && i2) && bk) = false) := by have := HP.out; rw [H1.out, H2.out, HB.out] at this; exact this
  clear HP H1 H2
  go_enter Try.func3, Try.ntmps3
  go_wp2_with (go_at_call 4; refine (bytes_any _ _ _ _ _ (by omega) (by omega) (by omega) (by omega) (by omega) (by omega) (by omega)).mono ?_; rintro e w' ⟨rfl, rfl⟩)
  refine (new_any m1 b s _).mono ?_
  rintro e w1 ⟨xt, rfl, t1, g1⟩
  go_wp2_with fail
  refine (new_any m2 b s _).mono ?_
  rintro e w2 ⟨xu, rfl, u2, g2⟩
  have t2 := t1.later g2
  clear t1
  go_wp2_with fail
  refine (new_any ⟨#[67, 65, 78, 67, 69, 76]⟩ b s _).mono ?_
  rintro e w3 ⟨xc, rfl, c3, g3⟩
  have t3 := t2.later g3
  have u3 := u2.later g3
  clear t2 u2
  go_wp2_with fail
  refine (new_any ⟨#[73, 78, 86, 73, 84, 69]⟩ b s _).mono ?_
  rintro e w4 ⟨xi, rfl, i4, g4⟩
  have t4 := t3.later g4
  have u4 := u3.later g4
  have c4 := c3.later g4
  clear t3 u3 c3
  go_wp2_with fail
  refine (cancels_any m1 m2 b s xt xu _ _ t4 u4 HA).mono ?_
  rintro e w5 ⟨rfl, g5⟩
  have t5 := t4.later g5
  have u5 := u4.later g5
  have c5 := c4.later g5
  have i5 := i4.later g5
  clear t4 u4 c4 i4
  go_wp2_with fail
  refine (cancels_any m2 m1 b s xu xt _ _ u5 t5 HB).mono ?_
  rintro e w6 ⟨rfl, g6⟩
  have t6 := t5.later g6
  have u6 := u5.later g6
  have c6 := c5.later g6
  have i6 := i5.later g6
  clear t5 u5 c5 i5
  go_wp2_with fail
  refine (cancels_any m1 _ b s xt xi _ _ t6 i6 HT).mono ?_
  rintro e w7 ⟨rfl, g7⟩
  have u7 := u6.later g7
  have c7 := c6.later g7
  have i7 := i6.later g7
  clear t6 u6 c6 i6
  go_wp2_with fail
  refine (cancels_any _ m2 b s xc xu _ _ c7 u7 HU).mono ?_
  rintro e w8 ⟨rfl, g8⟩
  have c8 := c7.later g8
  have i8 := i7.later g8
  clear u7 c7 i7
  go_wp2_with fail
  refine (cancels_any _ _ b s xc xi _ _ c8 i8 HV).mono ?_
  rintro e w9 ⟨rfl, g9⟩
  clear c8 i8
  have gg : Hid (Grown _ w9) := (g1.trans (g2.trans (g3.trans (g4.trans (g5.trans (g6.trans (g7.trans (g8.trans g9)))))))).1
  clear g1 g2 g3 g4 g5 g6 g7 g8 g9 HA HB HT HU HV
  have e1 := E1.out
  have e2 := E2.out
  clear E1 E2
  cases c1 <;> cases i2 <;> cases bk
  all_goals first | (exfalso; exact Bool.noConfusion HZ.out) | skip
  all_goals
    clear HZ
    go_wp2
    go_ret
    exact ⟨rfl, gg.out⟩

/-! ### STEP 1: THE WALK: the Go text returns true. 'Grown w w'': the world has at most new blocks (Derived/RowKit3.lean). Part the cases AHEAD of 'go_enter' where a test parts the walk; take each callee by a contract of your own. -/
theorem walk (a0 : ByteArray) (a1 : ByteArray) (a2 : ByteArray) (a3 : ByteArray) (w0 : a0.size ≤ maxLen) (w1 : a1.size ≤ maxLen) (w2 : a2.size ≤ maxLen) (w3 : a3.size ≤ maxLen) (w : World) :
    Calls Try.prog 3 #[.string a0, .string a1, .string a2, .string a3] w fun e w' => e = .returned (.bool true) ∧ Grown w w' := by
  by_cases hb : a0.size + a1.size + a2.size + a3.size ≤ 1048576
  · by_cases z1 : a0.size ≤ 65536
    · by_cases z2 : a1.size ≤ 65536
      · by_cases z3 : a2.size ≤ 65536
        · by_cases z4 : a3.size ≤ 65536
          · exact main a0 a1 a2 a3 w z1 z2 z3 z4
          · go_enter Try.func3, Try.ntmps3
            go_wp2_with (go_at_call 4; refine (bytes_any _ _ _ _ _ (by omega) (by omega) (by omega) (by omega) (by omega) (by omega) (by omega)).mono ?_; rintro e w' ⟨rfl, rfl⟩)
            go_ret
            exact ⟨rfl, Grown.refl _⟩
        · go_enter Try.func3, Try.ntmps3
          go_wp2_with (go_at_call 4; refine (bytes_any _ _ _ _ _ (by omega) (by omega) (by omega) (by omega) (by omega) (by omega) (by omega)).mono ?_; rintro e w' ⟨rfl, rfl⟩)
          go_ret
          exact ⟨rfl, Grown.refl _⟩
      · go_enter Try.func3, Try.ntmps3
        go_wp2_with (go_at_call 4; refine (bytes_any _ _ _ _ _ (by omega) (by omega) (by omega) (by omega) (by omega) (by omega) (by omega)).mono ?_; rintro e w' ⟨rfl, rfl⟩)
        go_ret
        exact ⟨rfl, Grown.refl _⟩
    · go_enter Try.func3, Try.ntmps3
      go_wp2_with (go_at_call 4; refine (bytes_any _ _ _ _ _ (by omega) (by omega) (by omega) (by omega) (by omega) (by omega) (by omega)).mono ?_; rintro e w' ⟨rfl, rfl⟩)
      go_ret
      exact ⟨rfl, Grown.refl _⟩
  · go_enter Try.func3, Try.ntmps3
    go_wp2_with (go_at_call 4; refine (bytes_some _ _ _ _ _ w0 w1 w2 w3 (by omega)).mono ?_; rintro e w' ⟨rfl, rfl⟩)
    go_ret
    exact ⟨rfl, Grown.refl _⟩

/-! ### THE ROW's STEP: WRITTEN OUT: LEAVE IT -/
set_option maxRecDepth 100000 in
theorem lifted (os : Os) (started : os.Started) (H : Type) (enc : TypeId × Value → H) :
    ReturnsInHanded {} Try.checked os 3 .any (Rows.fnCancelsFactorsByMethodSpec.pre6 enc Try.prog Try.f3 Rows.fnCancelsFactorsByMethodRow.domain false) (Rows.fnCancelsFactorsByMethodSpec.post enc Try.prog Try.f3 false true false false) := by
  refine returnsInHanded_of_change (C := Try.checked) own started (by kernel_rfl) Try.func3
    (ChangeSpec.witness6 (enc := enc) (C := Try.checked) false ⟨#[], #[.string ByteArray.empty, .string ByteArray.empty, .string ByteArray.empty, .string ByteArray.empty], []⟩ 8 (by kernel_rfl) (by kernel_rfl) (by kernel_rfl) (by kernel_rfl)) ?_
  intro W base args ds gs before hval0 hW hcnd _
  have hval : ∀ (j : Nat) t v, Try.f3.params[j]? = some t → args[j]? = some v → Value.okWide Try.prog W .any base t v := hval0
  have hW' := hW
  obtain ⟨p, q, hA0, hV, rfl, hfz, hnd⟩ := hW
  have hA : DataW.TrodAll enc Try.prog W 0 (fun _ => true) true Try.f3.params.toList args.toList ds p := hA0
  rw [Try.params3] at hA hval
  obtain ⟨v0, vs0, d0, ds0, p0, q0, hargs, rfl, rfl, h0, r0⟩ := trodAll_cons hA
  obtain ⟨v1, vs1, d1, ds1, p1, q1, rfl, rfl, rfl, h1, r1⟩ := trodAll_cons r0
  obtain ⟨v2, vs2, d2, ds2, p2, q2, rfl, rfl, rfl, h2, r2⟩ := trodAll_cons r1
  obtain ⟨v3, vs3, d3, ds3, p3, q3, rfl, rfl, rfl, h3, r3⟩ := trodAll_cons r2
  obtain ⟨rfl, rfl, rfl⟩ := trodAll_nil r3
  obtain rfl : args = #[v0, v1, v2, v3] := by cases args; simp_all
  obtain ⟨rfl, rfl⟩ := trodVars_none hV
  obtain ⟨a0, rfl, rfl, rfl, w0⟩ := open_string Try.underlying9 (hval 0 9 v0 rfl rfl) h0
  obtain ⟨a1, rfl, rfl, rfl, w1⟩ := open_string Try.underlying9 (hval 1 9 v1 rfl rfl) h1
  obtain ⟨a2, rfl, rfl, rfl, w2⟩ := open_string Try.underlying9 (hval 2 9 v2 rfl rfl) h2
  obtain ⟨a3, rfl, rfl, rfl, w3⟩ := open_string Try.underlying9 (hval 3 9 v3 rfl rfl) h3
  clear hA0 hval0
  simp only [List.append_nil] at hW'
  refine (walk a0 a1 a2 a3 w0 w1 w2 w3 W).mono fun e W' ⟨he, hg⟩ => ?_
  subst he
  exact ⟨_, rfl, post_of_same (pa := []) (pv := []) hW' (fun _ _ _ => (trodAll_cons_mk (shut_bool Try.underlying4 _) trodAll_mk0)) (fun sp _ => (trodAll_cons_mk (shut_string Try.underlying9 w0) (trodAll_cons_mk (shut_string Try.underlying9 w1) (trodAll_cons_mk (shut_string Try.underlying9 w2) (trodAll_cons_mk (shut_string Try.underlying9 w3) trodAll_mk0))))) (fun _ _ => rfl) rfl
    (hg.frame _) hg.2.1 (ok_one (by kernel_rfl) rfl (okWide_bool_mk Try.underlying4 _))⟩

theorem over : Rows.fnCancelsFactorsByMethodRow.holds Try.pinned (OpenSpec.ofChange Rows.fnCancelsFactorsByMethodSpec) :=
  OpenClaim.holds_of_wide 3 Try.f3 rfl rfl rfl rfl rfl rfl rfl ⟨rfl, rfl, rfl, rfl, rfl⟩ rfl rfl rfl rfl rfl (by kernel_rfl) Try.func3 (by kernel_rfl)
    (of_decide_eq_true (by kernel_rfl)) (by unfold Func.isWrapper; first | (rw [if_pos (by decide +kernel)]; kernel_rfl) | (rw [if_neg (by decide +kernel)]; exact ⟨rfl, rfl⟩))
    (fun os started H enc _ => lifted os started H enc)

/-- ████ THE STATEMENT ████ -/
theorem proved : Rows.FnCancelsFactorsByMethodSaid :=
  over
#print axioms proved
end Go.Proofs.Qxb6617013a.fnCancelsFactorsByMethod
