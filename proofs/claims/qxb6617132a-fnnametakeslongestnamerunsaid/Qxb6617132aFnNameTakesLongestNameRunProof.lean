/-
  THE PROOF OF 'Rows.FnNameTakesLongestNameRunSaid'. The frame is the guide's template, written by its tool; the walk and the plain law are ours.
-/
import Derived.Test.Qxb6617132aRows
import Derived.Test.Qxb6617132aBytes
import Derived.WalkKit
import Derived.ProofKit
import Derived.OpenShut
import Derived.ShutString
namespace Go.Proofs.Qxb6617132a.fnNameTakesLongestNameRun
open Go.ChangeShapes Go.WideShapes Go.ChangeAt Go.RowKit
open Go.ChangeMaps (open_string shut_string)
set_option linter.unusedVariables false      -- a walk need not use every 'w<i>' (that an integer argument fits its kind)

theorem own : ownKnob Try.prog.godebug = none := by kernel_rfl

/-! ### THE WALK WHERE pos LIES INSIDE s -/
set_option maxHeartbeats 1000000 in
theorem main (s : ByteArray) (k : Nat) (w : World) (hm : s.size ≤ maxLen) (hb : s.size ≤ 1048576) (hk : k ≤ s.size) :
    Calls Try.prog 5 #[.string s, .int .i64 (k : Int)] w fun e w' => e = .returned (.bool true) ∧ Grown w w' := by
  have q1 := Plain.stop_ge Plain.nameB s k
  have q2 := Plain.stop_le Plain.nameB s k hk
  have HA : Hid (∀ j (h : j < s.size), k ≤ j → j < Plain.stop Plain.nameB s k → Plain.nameB s[j] = true) := Plain.stop_all Plain.nameB s k hk
  have HN : Hid (∀ (h : Plain.stop Plain.nameB s k < s.size), Plain.nameB s[Plain.stop Plain.nameB s k] = false) := Plain.stop_not Plain.nameB s k hk
  have HI : Hid (Plain.stop Plain.nameB s (Plain.stop Plain.nameB s k) = Plain.stop Plain.nameB s k) := Plain.stop_stop Plain.nameB s k hk
  generalize hq : Plain.stop Plain.nameB s k = q at q1 q2 HA HN HI
  have HQ : Hid (Plain.stop Plain.nameB s k = q) := hq
  clear hq
  have t1 : decide ((1048576 : Int) < (s.size : Int)) = false := by simp; omega
  have t2 : decide ((k : Int) < 0) = false := by simp
  have t3 : decide (s.size < k) = false := by simp; omega
  have t4 : decide (q < k) = false := by simp; omega
  have t5 : decide (s.size < q) = false := by simp; omega
  have HE : Hid (s.extract q q = ⟨#[]⟩) := Plain.cut_none s q
  by_cases hqs : q < s.size
  · have hnb : Plain.nameB s[q] = false := HN.out hqs
    go_enter Try.func5, Try.ntmps5
    go_wp2_with (go_at_call 14; refine (bytes14_yes _ _ _ hb).mono ?_; rintro e w' ⟨rfl, rfl⟩)
    refine (ZZName_at s k q (s.extract k q) _ hm hk HQ rfl).mono ?_
    rintro e w1 ⟨rfl, g1⟩
    go_wp2_with fail
    go_loopg [7] (q - k) (fun g i wr => ∃ j : Nat, k ≤ j ∧ j ≤ q ∧ g = q - j ∧ i = .int .i64 j ∧ wr = w1)
    case atStart => exact ⟨k, Nat.le_refl _, q1, rfl, rfl, rfl⟩
    case round =>
      obtain ⟨j, hj1, hj2, hg, rfl, rfl⟩ := hrel
      have HG : Hid (gk = q - j) := hg
      clear hg
      by_cases hlt : j < q
      · have hbj : Plain.nameB s[j] = true := HA.out j (by omega) hj1 hlt
        go_wp2_with (go_at_call 16; refine (nameB_any _ _).mono ?_; rintro e w' ⟨rfl, rfl⟩)
        go_roundg (q - (j + 1))
        case measure => rw [HG.out]; omega
        case rel => exact ⟨j + 1, by omega, by omega, rfl, by go_num, rfl⟩
      · go_wp2_with (go_at_call 16; refine (nameB_any _ _).mono ?_; rintro e w' ⟨rfl, rfl⟩)
        refine (ZZName_at s q q ⟨#[]⟩ _ hm q2 HI HE).mono ?_
        rintro e w2 ⟨rfl, g2⟩
        go_wp2
        go_ret
        exact ⟨rfl, grown_trans g1 g2⟩
  · have t6 : decide (q < s.size) = false := by simp; omega
    go_enter Try.func5, Try.ntmps5
    go_wp2_with (go_at_call 14; refine (bytes14_yes _ _ _ hb).mono ?_; rintro e w' ⟨rfl, rfl⟩)
    refine (ZZName_at s k q (s.extract k q) _ hm hk HQ rfl).mono ?_
    rintro e w1 ⟨rfl, g1⟩
    go_wp2_with fail
    go_loopg [7] (q - k) (fun g i wr => ∃ j : Nat, k ≤ j ∧ j ≤ q ∧ g = q - j ∧ i = .int .i64 j ∧ wr = w1)
    case atStart => exact ⟨k, Nat.le_refl _, q1, rfl, rfl, rfl⟩
    case round =>
      obtain ⟨j, hj1, hj2, hg, rfl, rfl⟩ := hrel
      have HG : Hid (gk = q - j) := hg
      clear hg
      by_cases hlt : j < q
      · have hbj : Plain.nameB s[j] = true := HA.out j (by omega) hj1 hlt
        go_wp2_with (go_at_call 16; refine (nameB_any _ _).mono ?_; rintro e w' ⟨rfl, rfl⟩)
        go_roundg (q - (j + 1))
        case measure => rw [HG.out]; omega
        case rel => exact ⟨j + 1, by omega, by omega, rfl, by go_num, rfl⟩
      · go_wp2_with (go_at_call 16; refine (nameB_any _ _).mono ?_; rintro e w' ⟨rfl, rfl⟩)
        refine (ZZName_at s q q ⟨#[]⟩ _ hm q2 HI HE).mono ?_
        rintro e w2 ⟨rfl, g2⟩
        go_wp2
        go_ret
        exact ⟨rfl, grown_trans g1 g2⟩

/-! ### STEP 1: THE WALK: the Go text returns true. 'Grown w w'': the world has at most new blocks (Derived/RowKit3.lean). Part the cases AHEAD of 'go_enter' where a test parts the walk; take each callee by a contract of your own. -/
theorem walk (a0 : ByteArray) (a1 : Int) (w0 : a0.size ≤ maxLen) (w1 : (Lit.int .i64 a1).wf = true) (w : World) :
    Calls Try.prog 5 #[.string a0, .int .i64 a1] w fun e w' => e = .returned (.bool true) ∧ Grown w w' := by
  by_cases hb : a0.size ≤ 1048576
  · by_cases hn : a1 < 0
    · go_enter Try.func5, Try.ntmps5
      go_wp2_with (go_at_call 14; refine (bytes14_yes _ _ _ hb).mono ?_; rintro e w' ⟨rfl, rfl⟩)
      go_ret
      exact ⟨rfl, Grown.refl _⟩
    · obtain ⟨k, rfl⟩ := Int.eq_ofNat_of_zero_le (show 0 ≤ a1 by omega)
      by_cases hk : k ≤ a0.size
      · exact main a0 k w w0 hb hk
      · go_enter Try.func5, Try.ntmps5
        go_wp2_with (go_at_call 14; refine (bytes14_yes _ _ _ hb).mono ?_; rintro e w' ⟨rfl, rfl⟩)
        go_ret
        exact ⟨rfl, Grown.refl _⟩
  · go_enter Try.func5, Try.ntmps5
    go_wp2_with (go_at_call 14; refine (bytes14_no _ _ _ (by omega)).mono ?_; rintro e w' ⟨rfl, rfl⟩)
    go_ret
    exact ⟨rfl, Grown.refl _⟩

/-! ### THE ROW's STEP: WRITTEN OUT: LEAVE IT -/
set_option maxRecDepth 100000 in
theorem lifted (os : Os) (started : os.Started) (H : Type) (enc : TypeId × Value → H) :
    ReturnsInHanded {} Try.checked os 5 .any (Rows.fnNameTakesLongestNameRunSpec.pre6 enc Try.prog Try.f5 Rows.fnNameTakesLongestNameRunRow.domain false) (Rows.fnNameTakesLongestNameRunSpec.post enc Try.prog Try.f5 false true false false) := by
  refine returnsInHanded_of_change (C := Try.checked) own started (by kernel_rfl) Try.func5
    (ChangeSpec.witness6 (enc := enc) (C := Try.checked) false ⟨#[], #[.string ByteArray.empty, .int .i64 0], []⟩ 8 (by kernel_rfl) (by kernel_rfl) (by kernel_rfl) (by kernel_rfl)) ?_
  intro W base args ds gs before hval0 hW hcnd _
  have hval : ∀ (j : Nat) t v, Try.f5.params[j]? = some t → args[j]? = some v → Value.okWide Try.prog W .any base t v := hval0
  have hW' := hW
  obtain ⟨p, q, hA0, hV, rfl, hfz, hnd⟩ := hW
  have hA : DataW.TrodAll enc Try.prog W 0 (fun _ => true) true Try.f5.params.toList args.toList ds p := hA0
  rw [Try.params5] at hA hval
  obtain ⟨v0, vs0, d0, ds0, p0, q0, hargs, rfl, rfl, h0, r0⟩ := trodAll_cons hA
  obtain ⟨v1, vs1, d1, ds1, p1, q1, rfl, rfl, rfl, h1, r1⟩ := trodAll_cons r0
  obtain ⟨rfl, rfl, rfl⟩ := trodAll_nil r1
  obtain rfl : args = #[v0, v1] := by cases args; simp_all
  obtain ⟨rfl, rfl⟩ := trodVars_none hV
  obtain ⟨a0, rfl, rfl, rfl, w0⟩ := open_string Try.underlying9 (hval 0 9 v0 rfl rfl) h0
  obtain ⟨a1, rfl, rfl, rfl, w1⟩ := open_int Try.underlying3 (hval 1 3 v1 rfl rfl) h1
  clear hA0 hval0
  simp only [List.append_nil] at hW'
  refine (walk a0 a1 w0 w1 W).mono fun e W' ⟨he, hg⟩ => ?_
  subst he
  exact ⟨_, rfl, post_of_same (pa := []) (pv := []) hW' (fun _ _ _ => (trodAll_cons_mk (shut_bool Try.underlying4 _) trodAll_mk0)) (fun sp _ => (trodAll_cons_mk (shut_string Try.underlying9 w0) (trodAll_cons_mk (shut_int Try.underlying3 w1) trodAll_mk0))) (fun _ _ => rfl) rfl
    (hg.frame _) hg.2.1 (ok_one (by kernel_rfl) rfl (okWide_bool_mk Try.underlying4 _))⟩

theorem over : Rows.fnNameTakesLongestNameRunRow.holds Try.pinned (OpenSpec.ofChange Rows.fnNameTakesLongestNameRunSpec) :=
  OpenClaim.holds_of_wide 5 Try.f5 rfl rfl rfl rfl rfl rfl rfl ⟨rfl, rfl, rfl, rfl, rfl⟩ rfl rfl rfl rfl rfl (by kernel_rfl) Try.func5 (by kernel_rfl)
    (of_decide_eq_true (by kernel_rfl)) (by unfold Func.isWrapper; first | (rw [if_pos (by decide +kernel)]; kernel_rfl) | (rw [if_neg (by decide +kernel)]; exact ⟨rfl, rfl⟩))
    (fun os started H enc _ => lifted os started H enc)

/-- ████ THE STATEMENT ████ -/
theorem proved : Rows.FnNameTakesLongestNameRunSaid :=
  over
#print axioms proved
end Go.Proofs.Qxb6617132a.fnNameTakesLongestNameRun
