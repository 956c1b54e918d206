/-
  THE PROOF OF 'Rows.FnNameIsDigitRunThenNameFromThereSaid'. The frame is the guide's template, written by its tool; the walk and the plain law are ours.
-/
import Derived.Test.Qxb6617132aRows
import Derived.Test.Qxb6617132aBytes
import Derived.WalkKit
import Derived.ProofKit
import Derived.OpenShut
import Derived.ShutString
namespace Go.Proofs.Qxb6617132a.fnNameIsDigitRunThenNameFromThere
open Go.ChangeShapes Go.WideShapes Go.ChangeAt Go.RowKit
open Go.ChangeMaps (open_string shut_string)
set_option linter.unusedVariables false      -- a walk need not use every 'w<i>' (that an integer argument fits its kind)

theorem own : ownKnob Try.prog.godebug = none := by kernel_rfl

/-! ### THE WALK WHERE pos LIES INSIDE s -/
set_option maxHeartbeats 1000000 in
theorem main (s : ByteArray) (k : Nat) (w : World) (hm : s.size ≤ maxLen) (hb : s.size ≤ 1048576) (hk : k ≤ s.size) :
    Calls Try.prog 9 #[.string s, .int .i64 (k : Int)] w fun e w' => e = .returned (.bool true) ∧ Grown w w' := by
  have q1 := Plain.stop_ge Plain.digit s k
  have q2 := Plain.stop_le Plain.digit s k hk
  have HA : Hid (∀ j (h : j < s.size), k ≤ j → j < Plain.stop Plain.digit s k → Plain.digit s[j] = true) := Plain.stop_all Plain.digit s k hk
  have HN : Hid (∀ (h : Plain.stop Plain.digit s k < s.size), Plain.digit s[Plain.stop Plain.digit s k] = false) := Plain.stop_not Plain.digit s k hk
  have HI : Hid (Plain.stop Plain.digit s (Plain.stop Plain.digit s k) = Plain.stop Plain.digit s k) := Plain.stop_stop Plain.digit s k hk
  have HW : Hid (Plain.stop Plain.nameB s (Plain.stop Plain.digit s k) = Plain.stop Plain.nameB s k) := (Plain.stop_within Plain.digit Plain.nameB Plain.digit_name s k hk).symm
  generalize hq : Plain.stop Plain.digit s k = q at q1 q2 HA HN HI HW
  have HQ : Hid (Plain.stop Plain.digit s k = q) := hq
  clear hq
  have t1 : decide ((1048576 : Int) < (s.size : Int)) = false := by simp; omega
  have t2 : decide ((k : Int) < 0) = false := by simp
  have t3 : decide (s.size < k) = false := by simp; omega
  have t4 : decide (q < k) = false := by simp; omega
  have t5 : decide (s.size < q) = false := by simp; omega
  have p1 := Plain.stop_ge Plain.nameB s q
  have p2 := Plain.stop_le Plain.nameB s k hk
  rw [HW.out] at p1
  generalize hp : Plain.stop Plain.nameB s k = p at p1 p2 HW
  have HP : Hid (Plain.stop Plain.nameB s k = p) := hp
  clear hp
  have HC : Hid (s.extract k p = s.extract k q ++ s.extract q p) := (Plain.cut_app s k q p q1 p1).symm
  by_cases hqs : q < s.size
  · have hnb : Plain.digit s[q] = false := HN.out hqs
    go_enter Try.func9, Try.ntmps9
    go_wp2_with (go_at_call 22; refine (bytes22_yes _ _ _ hb).mono ?_; rintro e w' ⟨rfl, rfl⟩)
    refine (ZZDigits_at s k q _ hm hk HQ).mono ?_
    rintro e w1 ⟨rfl, g1⟩
    go_wp2_with fail
    go_loopg [6] (q - k) (fun g i wr => ∃ j : Nat, k ≤ j ∧ j ≤ q ∧ g = q - j ∧ i = .int .i64 j ∧ wr = w1)
    case atStart => exact ⟨k, Nat.le_refl _, q1, rfl, rfl, rfl⟩
    case round =>
      obtain ⟨j, hj1, hj2, hg, rfl, rfl⟩ := hrel
      have HG : Hid (gk = q - j) := hg
      clear hg
      by_cases hlt : j < q
      · have hbj : Plain.digit s[j] = true := HA.out j (by omega) hj1 hlt
        go_wp2_with (go_at_call 20; refine (digit_any _ _).mono ?_; rintro e w' ⟨rfl, rfl⟩)
        go_roundg (q - (j + 1))
        case measure => rw [HG.out]; omega
        case rel => exact ⟨j + 1, by omega, by omega, rfl, by go_num, rfl⟩
      · go_wp2_with (go_at_call 20; refine (digit_any _ _).mono ?_; rintro e w' ⟨rfl, rfl⟩)
        refine (ZZName_at s k p _ _ hm hk HP HC).mono ?_
        rintro e w2 ⟨rfl, g2⟩
        go_wp2_with fail
        refine (ZZName_at s q p (s.extract q p) _ hm q2 HW rfl).mono ?_
        rintro e w3 ⟨rfl, g3⟩
        go_wp2
        go_ret
        exact ⟨ret_bool (beq_iff_eq.2 (by omega)), grown_trans g1 (grown_trans g2 g3)⟩
  · have t6 : decide (q < s.size) = false := by simp; omega
    go_enter Try.func9, Try.ntmps9
    go_wp2_with (go_at_call 22; refine (bytes22_yes _ _ _ hb).mono ?_; rintro e w' ⟨rfl, rfl⟩)
    refine (ZZDigits_at s k q _ hm hk HQ).mono ?_
    rintro e w1 ⟨rfl, g1⟩
    go_wp2_with fail
    go_loopg [6] (q - k) (fun g i wr => ∃ j : Nat, k ≤ j ∧ j ≤ q ∧ g = q - j ∧ i = .int .i64 j ∧ wr = w1)
    case atStart => exact ⟨k, Nat.le_refl _, q1, rfl, rfl, rfl⟩
    case round =>
      obtain ⟨j, hj1, hj2, hg, rfl, rfl⟩ := hrel
      have HG : Hid (gk = q - j) := hg
      clear hg
      by_cases hlt : j < q
      · have hbj : Plain.digit s[j] = true := HA.out j (by omega) hj1 hlt
        go_wp2_with (go_at_call 20; refine (digit_any _ _).mono ?_; rintro e w' ⟨rfl, rfl⟩)
        go_roundg (q - (j + 1))
        case measure => rw [HG.out]; omega
        case rel => exact ⟨j + 1, by omega, by omega, rfl, by go_num, rfl⟩
      · go_wp2_with (go_at_call 20; refine (digit_any _ _).mono ?_; rintro e w' ⟨rfl, rfl⟩)
        refine (ZZName_at s k p _ _ hm hk HP HC).mono ?_
        rintro e w2 ⟨rfl, g2⟩
        go_wp2_with fail
        refine (ZZName_at s q p (s.extract q p) _ hm q2 HW rfl).mono ?_
        rintro e w3 ⟨rfl, g3⟩
        go_wp2
        go_ret
        exact ⟨ret_bool (beq_iff_eq.2 (by omega)), grown_trans g1 (grown_trans g2 g3)⟩

/-! ### STEP 1: THE WALK: the Go text returns true. 'Grown w w'': the world has at most new blocks (Derived/RowKit3.lean). Part the cases AHEAD of 'go_enter' where a test parts the walk; take each callee by a contract of your own. -/
theorem walk (a0 : ByteArray) (a1 : Int) (w0 : a0.size ≤ maxLen) (w1 : (Lit.int .i64 a1).wf = true) (w : World) :
    Calls Try.prog 9 #[.string a0, .int .i64 a1] w fun e w' => e = .returned (.bool true) ∧ Grown w w' := by
  by_cases hb : a0.size ≤ 1048576
  · by_cases hn : a1 < 0
    · go_enter Try.func9, Try.ntmps9
      go_wp2_with (go_at_call 22; refine (bytes22_yes _ _ _ hb).mono ?_; rintro e w' ⟨rfl, rfl⟩)
      go_ret
      exact ⟨rfl, Grown.refl _⟩
    · obtain ⟨k, rfl⟩ := Int.eq_ofNat_of_zero_le (show 0 ≤ a1 by omega)
      by_cases hk : k ≤ a0.size
      · exact main a0 k w w0 hb hk
      · go_enter Try.func9, Try.ntmps9
        go_wp2_with (go_at_call 22; refine (bytes22_yes _ _ _ hb).mono ?_; rintro e w' ⟨rfl, rfl⟩)
        go_ret
        exact ⟨rfl, Grown.refl _⟩
  · go_enter Try.func9, Try.ntmps9
    go_wp2_with (go_at_call 22; refine (bytes22_no _ _ _ (by omega)).mono ?_; rintro e w' ⟨rfl, rfl⟩)
    go_ret
    exact ⟨rfl, Grown.refl _⟩

/-! ### THE ROW's STEP: WRITTEN OUT: LEAVE IT -/
set_option maxRecDepth 100000 in
theorem lifted (os : Os) (started : os.Started) (H : Type) (enc : TypeId × Value → H) :
    ReturnsInHanded {} Try.checked os 9 .any (Rows.fnNameIsDigitRunThenNameFromThereSpec.pre6 enc Try.prog Try.f9 Rows.fnNameIsDigitRunThenNameFromThereRow.domain false) (Rows.fnNameIsDigitRunThenNameFromThereSpec.post enc Try.prog Try.f9 false true false false) := by
  refine returnsInHanded_of_change (C := Try.checked) own started (by kernel_rfl) Try.func9
    (ChangeSpec.witness6 (enc := enc) (C := Try.checked) false ⟨#[], #[.string ByteArray.empty, .int .i64 0], []⟩ 8 (by kernel_rfl) (by kernel_rfl) (by kernel_rfl) (by kernel_rfl)) ?_
  intro W base args ds gs before hval0 hW hcnd _
  have hval : ∀ (j : Nat) t v, Try.f9.params[j]? = some t → args[j]? = some v → Value.okWide Try.prog W .any base t v := hval0
  have hW' := hW
  obtain ⟨p, q, hA0, hV, rfl, hfz, hnd⟩ := hW
  have hA : DataW.TrodAll enc Try.prog W 0 (fun _ => true) true Try.f9.params.toList args.toList ds p := hA0
  rw [Try.params9] at hA hval
  obtain ⟨v0, vs0, d0, ds0, p0, q0, hargs, rfl, rfl, h0, r0⟩ := trodAll_cons hA
  obtain ⟨v1, vs1, d1, ds1, p1, q1, rfl, rfl, rfl, h1, r1⟩ := trodAll_cons r0
  obtain ⟨rfl, rfl, rfl⟩ := trodAll_nil r1
  obtain rfl : args = #[v0, v1] := by cases args; simp_all
  obtain ⟨rfl, rfl⟩ := trodVars_none hV
  obtain ⟨a0, rfl, rfl, rfl, w0⟩ := open_string Try.underlying9 (hval 0 9 v0 rfl rfl) h0
  obtain ⟨a1, rfl, rfl, rfl, w1⟩ := open_int Try.underlying3 (hval 1 3 v1 rfl rfl) h1
  clear hA0 hval0
  simp only [List.append_nil] at hW'
  refine (walk a0 a1 w0 w1 W).mono fun e W' ⟨he, hg⟩ => ?_
  subst he
  exact ⟨_, rfl, post_of_same (pa := []) (pv := []) hW' (fun _ _ _ => (trodAll_cons_mk (shut_bool Try.underlying4 _) trodAll_mk0)) (fun sp _ => (trodAll_cons_mk (shut_string Try.underlying9 w0) (trodAll_cons_mk (shut_int Try.underlying3 w1) trodAll_mk0))) (fun _ _ => rfl) rfl
    (hg.frame _) hg.2.1 (ok_one (by kernel_rfl) rfl (okWide_bool_mk Try.underlying4 _))⟩

theorem over : Rows.fnNameIsDigitRunThenNameFromThereRow.holds Try.pinned (OpenSpec.ofChange Rows.fnNameIsDigitRunThenNameFromThereSpec) :=
  OpenClaim.holds_of_wide 9 Try.f9 rfl rfl rfl rfl rfl rfl rfl ⟨rfl, rfl, rfl, rfl, rfl⟩ rfl rfl rfl rfl rfl (by kernel_rfl) Try.func9 (by kernel_rfl)
    (of_decide_eq_true (by kernel_rfl)) (by unfold Func.isWrapper; first | (rw [if_pos (by decide +kernel)]; kernel_rfl) | (rw [if_neg (by decide +kernel)]; exact ⟨rfl, rfl⟩))
    (fun os started H enc _ => lifted os started H enc)

/-- ████ THE STATEMENT ████ -/
theorem proved : Rows.FnNameIsDigitRunThenNameFromThereSaid :=
  over
#print axioms proved
end Go.Proofs.Qxb6617132a.fnNameIsDigitRunThenNameFromThere
