/-
  THE PROOF OF 'Rows.FnNameAgreesAcrossAnyCutSaid'. The frame is the guide's template, written by its tool; the walk and the plain law are ours.
-/
import Derived.Test.Qxb6617132aRows
import Derived.Test.Qxb6617132aBytes
import Derived.WalkKit
import Derived.ProofKit
import Derived.OpenShut
import Derived.ShutString
namespace Go.Proofs.Qxb6617132a.fnNameAgreesAcrossAnyCut
open Go.ChangeShapes Go.WideShapes Go.ChangeAt Go.RowKit
open Go.ChangeMaps (open_string shut_string)
set_option linter.unusedVariables false      -- a walk need not use every 'w<i>' (that an integer argument fits its kind)

theorem own : ownKnob Try.prog.godebug = none := by kernel_rfl

/-! ### THE DOOR AT 0, AND AT A SUM -/
theorem ZZName_zero (s : ByteArray) (q : Nat) (n : ByteArray) (w : World) (hs : s.size ≤ maxLen) (hq : Hid (Plain.stop Plain.nameB s 0 = q)) (hn : Hid (s.extract 0 q = n)) :
    Calls Try.prog 15 #[.string s, .int .i64 0] w fun e w' => e = .returned (.tuple #[.string n, .int .i64 (q : Int)]) ∧ Grown w w' :=
  ZZName_at s 0 q n w hs (Nat.zero_le _) hq hn

theorem ZZName_sum (s : ByteArray) (k p q : Nat) (n : ByteArray) (w : World) (hs : s.size ≤ maxLen) (hk : k ≤ s.size) (hq : Hid (Plain.stop Plain.nameB s k = p + q)) (hn : Hid (s.extract k (p + q) = n)) :
    Calls Try.prog 15 #[.string s, .int .i64 (k : Int)] w fun e w' => e = .returned (.tuple #[.string n, .int .i64 ((p : Int) + (q : Int))]) ∧ Grown w w' := by
  have := ZZName_at s k (p + q) n w hs hk hq hn
  rwa [Int.natCast_add] at this

/-! ### THE WALK WHERE pos LIES INSIDE s -/
set_option maxHeartbeats 1000000 in
theorem main (s t : ByteArray) (k : Nat) (w : World) (hm : s.size ≤ maxLen) (hmt : t.size ≤ maxLen) (hb : s.size + t.size ≤ 1048576) (hs : s.size ≤ 524288) (ht : t.size ≤ 524288) (hk : k ≤ s.size) :
    Calls Try.prog 6 #[.string s, .string t, .int .i64 (k : Int)] w fun e w' => e = .returned (.bool true) ∧ Grown w w' := by
  have hmj : (s ++ t).size ≤ maxLen := by rw [Plain.size_app]; unfold maxLen; omega
  have hkj : k ≤ (s ++ t).size := by rw [Plain.size_app]; omega
  have q1 := Plain.stop_ge Plain.nameB s k
  have q2 := Plain.stop_le Plain.nameB s k hk
  have HN : Hid (∀ (h : Plain.stop Plain.nameB s k < s.size), Plain.nameB s[Plain.stop Plain.nameB s k] = false) := Plain.stop_not Plain.nameB s k hk
  have HJ : Hid (Plain.stop Plain.nameB s k < s.size → Plain.stop Plain.nameB (s ++ t) k = Plain.stop Plain.nameB s k) := Plain.stop_app_in Plain.nameB s t k hk
  have HO : Hid (Plain.stop Plain.nameB s k = s.size → Plain.stop Plain.nameB (s ++ t) k = s.size + Plain.stop Plain.nameB t 0) := Plain.stop_app_out Plain.nameB s t k hk
  generalize hq : Plain.stop Plain.nameB s k = q at q1 q2 HN HJ HO
  have HQ : Hid (Plain.stop Plain.nameB s k = q) := hq
  clear hq
  have t2 : decide ((k : Int) < 0) = false := by simp
  by_cases hqs : q < s.size
  · have HJ' : Hid (Plain.stop Plain.nameB (s ++ t) k = q) := HJ.out hqs
    have HCJ : Hid ((s ++ t).extract k q = s.extract k q) := Plain.cut_left s t k q q2
    have hnb : Plain.nameB s[q] = false := HN.out hqs
    clear HJ HO HN
    go_enter Try.func6, Try.ntmps6
    go_wp2_with (go_at_call 17; refine (bytes17_yes _ _ _ _ hm hmt hb).mono ?_; rintro e w' ⟨rfl, rfl⟩)
    refine (ZZName_at s k q (s.extract k q) _ hm hk HQ rfl).mono ?_
    rintro e w1 ⟨rfl, g1⟩
    go_wp2_with fail
    refine (ZZName_at (s ++ t) k q _ _ hmj hkj HJ' HCJ).mono ?_
    rintro e w2 ⟨rfl, g2⟩
    go_wp2_with (go_at_call 16; refine (nameB_any _ _).mono ?_; rintro e w' ⟨rfl, rfl⟩)
    go_ret
    exact ⟨rfl, grown_trans g1 g2⟩
  · have e : q = s.size := by omega
    have HT : Hid (Plain.stop Plain.nameB (s ++ t) k = s.size + Plain.stop Plain.nameB t 0) := HO.out e
    have r2 := Plain.stop_le Plain.nameB t 0 (Nat.zero_le _)
    generalize hr : Plain.stop Plain.nameB t 0 = r at HT r2
    have HR : Hid (Plain.stop Plain.nameB t 0 = r) := hr
    have HCJ : Hid ((s ++ t).extract k (s.size + r) = s.extract k q ++ t.extract 0 r) := by rw [e]; exact Plain.cut_over s t k r hk
    clear hr HJ HO HN e
    go_enter Try.func6, Try.ntmps6
    go_wp2_with (go_at_call 17; refine (bytes17_yes _ _ _ _ hm hmt hb).mono ?_; rintro e w' ⟨rfl, rfl⟩)
    refine (ZZName_at s k q (s.extract k q) _ hm hk HQ rfl).mono ?_
    rintro e w1 ⟨rfl, g1⟩
    go_wp2_with fail
    refine (ZZName_sum (s ++ t) k s.size r _ _ hmj hkj HT HCJ).mono ?_
    rintro e w2 ⟨rfl, g2⟩
    go_wp2_with fail
    refine (ZZName_zero t r (t.extract 0 r) _ hmt HR rfl).mono ?_
    rintro e w3 ⟨rfl, g3⟩
    go_wp2_with fail
    go_ret
    exact ⟨rfl, grown_trans g1 (grown_trans g2 g3)⟩

/-! ### STEP 1: THE WALK: the Go text returns true. 'Grown w w'': the world has at most new blocks (Derived/RowKit3.lean). Part the cases AHEAD of 'go_enter' where a test parts the walk; take each callee by a contract of your own. -/
theorem walk (a0 : ByteArray) (a1 : ByteArray) (a2 : Int) (w0 : a0.size ≤ maxLen) (w1 : a1.size ≤ maxLen) (w2 : (Lit.int .i64 a2).wf = true) (w : World) :
    Calls Try.prog 6 #[.string a0, .string a1, .int .i64 a2] w fun e w' => e = .returned (.bool true) ∧ Grown w w' := by
  by_cases hb : a0.size + a1.size ≤ 1048576
  · by_cases hs : a0.size ≤ 524288
    · by_cases ht : a1.size ≤ 524288
      · by_cases hn : a2 < 0
        · go_enter Try.func6, Try.ntmps6
          go_wp2_with (go_at_call 17; refine (bytes17_yes _ _ _ _ w0 w1 hb).mono ?_; rintro e w' ⟨rfl, rfl⟩)
          go_ret
          exact ⟨rfl, Grown.refl _⟩
        · obtain ⟨k, rfl⟩ := Int.eq_ofNat_of_zero_le (show 0 ≤ a2 by omega)
          by_cases hk : k ≤ a0.size
          · exact main a0 a1 k w w0 w1 hb hs ht hk
          · go_enter Try.func6, Try.ntmps6
            go_wp2_with (go_at_call 17; refine (bytes17_yes _ _ _ _ w0 w1 hb).mono ?_; rintro e w' ⟨rfl, rfl⟩)
            go_ret
            exact ⟨rfl, Grown.refl _⟩
      · go_enter Try.func6, Try.ntmps6
        go_wp2_with (go_at_call 17; refine (bytes17_yes _ _ _ _ w0 w1 hb).mono ?_; rintro e w' ⟨rfl, rfl⟩)
        go_ret
        exact ⟨rfl, Grown.refl _⟩
    · go_enter Try.func6, Try.ntmps6
      go_wp2_with (go_at_call 17; refine (bytes17_yes _ _ _ _ w0 w1 hb).mono ?_; rintro e w' ⟨rfl, rfl⟩)
      go_ret
      exact ⟨rfl, Grown.refl _⟩
  · go_enter Try.func6, Try.ntmps6
    go_wp2_with (go_at_call 17; refine (bytes17_no _ _ _ _ w0 w1 (by omega)).mono ?_; rintro e w' ⟨rfl, rfl⟩)
    go_ret
    exact ⟨rfl, Grown.refl _⟩

/-! ### THE ROW's STEP: WRITTEN OUT: LEAVE IT -/
set_option maxRecDepth 100000 in
theorem lifted (os : Os) (started : os.Started) (H : Type) (enc : TypeId × Value → H) :
    ReturnsInHanded {} Try.checked os 6 .any (Rows.fnNameAgreesAcrossAnyCutSpec.pre6 enc Try.prog Try.f6 Rows.fnNameAgreesAcrossAnyCutRow.domain false) (Rows.fnNameAgreesAcrossAnyCutSpec.post enc Try.prog Try.f6 false true false false) := by
  refine returnsInHanded_of_change (C := Try.checked) own started (by kernel_rfl) Try.func6
    (ChangeSpec.witness6 (enc := enc) (C := Try.checked) false ⟨#[], #[.string ByteArray.empty, .string ByteArray.empty, .int .i64 0], []⟩ 8 (by kernel_rfl) (by kernel_rfl) (by kernel_rfl) (by kernel_rfl)) ?_
  intro W base args ds gs before hval0 hW hcnd _
  have hval : ∀ (j : Nat) t v, Try.f6.params[j]? = some t → args[j]? = some v → Value.okWide Try.prog W .any base t v := hval0
  have hW' := hW
  obtain ⟨p, q, hA0, hV, rfl, hfz, hnd⟩ := hW
  have hA : DataW.TrodAll enc Try.prog W 0 (fun _ => true) true Try.f6.params.toList args.toList ds p := hA0
  rw [Try.params6] at hA hval
  obtain ⟨v0, vs0, d0, ds0, p0, q0, hargs, rfl, rfl, h0, r0⟩ := trodAll_cons hA
  obtain ⟨v1, vs1, d1, ds1, p1, q1, rfl, rfl, rfl, h1, r1⟩ := trodAll_cons r0
  obtain ⟨v2, vs2, d2, ds2, p2, q2, rfl, rfl, rfl, h2, r2⟩ := trodAll_cons r1
  obtain ⟨rfl, rfl, rfl⟩ := trodAll_nil r2
  obtain rfl : args = #[v0, v1, v2] := by cases args; simp_all
  obtain ⟨rfl, rfl⟩ := trodVars_none hV
  obtain ⟨a0, rfl, rfl, rfl, w0⟩ := open_string Try.underlying9 (hval 0 9 v0 rfl rfl) h0
  obtain ⟨a1, rfl, rfl, rfl, w1⟩ := open_string Try.underlying9 (hval 1 9 v1 rfl rfl) h1
  obtain ⟨a2, rfl, rfl, rfl, w2⟩ := open_int Try.underlying3 (hval 2 3 v2 rfl rfl) h2
  clear hA0 hval0
  simp only [List.append_nil] at hW'
  refine (walk a0 a1 a2 w0 w1 w2 W).mono fun e W' ⟨he, hg⟩ => ?_
  subst he
  exact ⟨_, rfl, post_of_same (pa := []) (pv := []) hW' (fun _ _ _ => (trodAll_cons_mk (shut_bool Try.underlying4 _) trodAll_mk0)) (fun sp _ => (trodAll_cons_mk (shut_string Try.underlying9 w0) (trodAll_cons_mk (shut_string Try.underlying9 w1) (trodAll_cons_mk (shut_int Try.underlying3 w2) trodAll_mk0)))) (fun _ _ => rfl) rfl
    (hg.frame _) hg.2.1 (ok_one (by kernel_rfl) rfl (okWide_bool_mk Try.underlying4 _))⟩

theorem over : Rows.fnNameAgreesAcrossAnyCutRow.holds Try.pinned (OpenSpec.ofChange Rows.fnNameAgreesAcrossAnyCutSpec) :=
  OpenClaim.holds_of_wide 6 Try.f6 rfl rfl rfl rfl rfl rfl rfl ⟨rfl, rfl, rfl, rfl, rfl⟩ rfl rfl rfl rfl rfl (by kernel_rfl) Try.func6 (by kernel_rfl)
    (of_decide_eq_true (by kernel_rfl)) (by unfold Func.isWrapper; first | (rw [if_pos (by decide +kernel)]; kernel_rfl) | (rw [if_neg (by decide +kernel)]; exact ⟨rfl, rfl⟩))
    (fun os started H enc _ => lifted os started H enc)

/-- ████ THE STATEMENT ████ -/
theorem proved : Rows.FnNameAgreesAcrossAnyCutSaid :=
  over
#print axioms proved
end Go.Proofs.Qxb6617132a.fnNameAgreesAcrossAnyCut
