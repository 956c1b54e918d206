/-
  THE WALK of the parser's name.
-/
import Derived.Test.Qxb6617132aLeaves
namespace Go.Proofs.Qxb6617132a
open Go.RowKit

theorem isDigit_yes (c : UInt8) (w : World) (h : Plain.digit c = true) :
    Calls Try.prog 26 #[.int .u8 (c.toNat : Int)] w fun e w' => e = .returned (.bool true) ∧ w' = w := by
  rw [← h]; exact isDigit_any c w

theorem isDigit_no (c : UInt8) (w : World) (h : Plain.digit c = false) :
    Calls Try.prog 26 #[.int .u8 (c.toNat : Int)] w fun e w' => e = .returned (.bool false) ∧ w' = w := by
  rw [← h]; exact isDigit_any c w

set_option maxHeartbeats 400000 in
theorem name_any (s : ByteArray) (b k0 : Nat) (W w : World) (hs : s.size ≤ maxLen) (hk : k0 ≤ s.size) (hat : At W b s k0 w) :
    Calls Try.prog 24 #[.pointer (some ⟨b, 0, none⟩)] w fun e w' => e = .returned (.string (s.extract k0 (Plain.stop Plain.nameB s k0))) ∧ At W b s (Plain.stop Plain.nameB s k0) w' := by
  unfold maxLen at hs
  have c0 := hat.text
  have c1 := hat.pos
  go_enter Try.func24, Try.ntmps24
  go_wp2
  go_loopg [] (s.size - k0) (fun g wr => ∃ k : Nat, k0 ≤ k ∧ k ≤ s.size ∧ g = s.size - k ∧ Plain.stop Plain.nameB s k = Plain.stop Plain.nameB s k0 ∧ At W b s k wr)
  case atStart => exact ⟨k0, Nat.le_refl _, hk, rfl, rfl, hat⟩
  case round =>
    obtain ⟨k, hk0, hks, hgk, hst, hr⟩ := hrel
    have HG : Hid (gk = s.size - k) := hgk
    have HS : Hid (Plain.stop Plain.nameB s k = Plain.stop Plain.nameB s k0) := hst
    have d0 := hr.text
    have d1 := hr.pos
    have e1 := hr.free
    clear hgk hst hat c0 c1
    by_cases hlt : k < s.size
    · cases xd : Plain.digit s[k]
      · cases x1 : ((s[k].toNat : Int) == 95)
        · by_cases x2 : (97 : Int) ≤ (s[k].toNat : Int)
          · by_cases x3 : (s[k].toNat : Int) ≤ 122
            · have HB : Hid (Plain.nameB s[k] = true) := by unfold Plain.nameB; rw [decide_eq_true x2, decide_eq_true x3]; simp [Hid]
              go_wp2
              go_quiet ((go_at_call 26; exact Calls.quiet_of_same (isDigit_no _ _ xd)))
              go_wp2
              go_roundg (s.size - (k + 1))
              case measure => rw [HG.out]; omega
              case rel => exact ⟨k + 1, by omega, by omega, rfl, by rw [← HS.out, Plain.stop_step _ s k hlt HB.out], hr.set _⟩
            · have HB : Hid (Plain.stop Plain.nameB s k0 = k) := by rw [← HS.out]; exact Plain.stop_halt _ s k hlt (by unfold Plain.nameB; rw [x1, xd, decide_eq_false x3]; simp)
              have x3' : decide ((s[k].toNat : Int) ≤ 122) = false := decide_eq_false x3
              go_wp2
              go_quiet ((go_at_call 26; exact Calls.quiet_of_same (isDigit_no _ _ xd)))
              go_wp2
              go_quiet (fail)
              go_wp2
              go_ret
              exact ⟨by rw [HB.out]; rfl, by rw [HB.out]; exact (hr.drewN _).drewN _⟩
          · have HB : Hid (Plain.stop Plain.nameB s k0 = k) := by rw [← HS.out]; exact Plain.stop_halt _ s k hlt (by unfold Plain.nameB; rw [x1, xd, decide_eq_false x2]; simp)
            have x2' : decide ((97 : Int) ≤ (s[k].toNat : Int)) = false := decide_eq_false x2
            go_wp2
            go_quiet ((go_at_call 26; exact Calls.quiet_of_same (isDigit_no _ _ xd)))
            go_wp2
            go_quiet (fail)
            go_wp2
            go_ret
            exact ⟨by rw [HB.out]; rfl, by rw [HB.out]; exact (hr.drewN _).drewN _⟩
        · have HB : Hid (Plain.nameB s[k] = true) := by unfold Plain.nameB; rw [x1]; simp [Hid]
          go_wp2
          go_quiet ((go_at_call 26; exact Calls.quiet_of_same (isDigit_no _ _ xd)))
          go_wp2
          go_roundg (s.size - (k + 1))
          case measure => rw [HG.out]; omega
          case rel => exact ⟨k + 1, by omega, by omega, rfl, by rw [← HS.out, Plain.stop_step _ s k hlt HB.out], hr.set _⟩
      · have HB : Hid (Plain.nameB s[k] = true) := by unfold Plain.nameB; rw [xd]; simp [Hid]
        go_wp2
        go_quiet ((go_at_call 26; exact Calls.quiet_of_same (isDigit_yes _ _ xd)))
        go_wp2
        go_roundg (s.size - (k + 1))
        case measure => rw [HG.out]; omega
        case rel => exact ⟨k + 1, by omega, by omega, rfl, by rw [← HS.out, Plain.stop_step _ s k hlt HB.out], hr.set _⟩
    · have hdl : decide ((k : Int) < (s.size : Int)) = false := by simp; omega
      have HB : Hid (Plain.stop Plain.nameB s k0 = k) := by rw [← HS.out]; exact Plain.stop_end _ s k (by omega)
      go_wp2
      go_quiet ((go_at_call 26; exact Calls.quiet_of_same (isDigit_any _ _)))
      go_wp2
      go_quiet (fail)
      go_wp2
      go_ret
      exact ⟨by rw [HB.out]; rfl, by rw [HB.out]; exact (hr.drewN _).drewN _⟩

end Go.Proofs.Qxb6617132a
