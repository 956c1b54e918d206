/-
  THE WALKS of the leaves and of the parser's peek, name and digits, and of the three doors ZZPeek, ZZName, ZZDigits.
-/
import Derived.Test.Qxb6617132aRows
import Derived.Test.Qxb6617132aPlain
import Derived.WalkKit
import Derived.WalkSpells
import Derived.WalkLawsBesides
import Derived.BigQuiet
import Derived.Deep.LoopGhost
namespace Go.Proofs.Qxb6617132a
open Go.RowKit

theorem ret_bool {a b : Bool} (h : a = b) : Ending.returned (.bool a) = .returned (.bool b) := by rw [h]

/-! ### isDigit, zzMB1Digit, zzMB1Blank, zzMB1NameByte -/

set_option maxHeartbeats 400000 in
theorem isDigit_any (c : UInt8) (w : World) :
    Calls Try.prog 26 #[.int .u8 (c.toNat : Int)] w fun e w' => e = .returned (.bool (Plain.digit c)) ∧ w' = w := by
  have HD : Hid (Plain.digit c = (decide ((48 : Int) ≤ (c.toNat : Int)) && decide ((c.toNat : Int) ≤ 57))) := rfl
  by_cases h1 : (48 : Int) ≤ (c.toNat : Int) <;> by_cases h2 : (c.toNat : Int) ≤ 57
  all_goals
    go_enter Try.func26, Try.ntmps26
    go_wp2
    go_ret
    exact ⟨ret_bool (by rw [HD.out]; simp [h1, h2]), rfl⟩

set_option maxHeartbeats 400000 in
theorem digit_any (c : UInt8) (w : World) :
    Calls Try.prog 20 #[.int .u8 (c.toNat : Int)] w fun e w' => e = .returned (.bool (Plain.digit c)) ∧ w' = w := by
  have HD : Hid (Plain.digit c = (decide ((48 : Int) ≤ (c.toNat : Int)) && decide ((c.toNat : Int) ≤ 57))) := rfl
  by_cases h1 : (48 : Int) ≤ (c.toNat : Int) <;> by_cases h2 : (c.toNat : Int) ≤ 57
  all_goals
    go_enter Try.func20, Try.ntmps20
    go_wp2
    go_ret
    exact ⟨ret_bool (by rw [HD.out]; simp [h1, h2]), rfl⟩

set_option maxHeartbeats 400000 in
theorem blank_any (c : UInt8) (w : World) :
    Calls Try.prog 12 #[.int .u8 (c.toNat : Int)] w fun e w' => e = .returned (.bool (Plain.blank c)) ∧ w' = w := by
  have HD : Hid (Plain.blank c = (((c.toNat : Int) == 32) || ((c.toNat : Int) == 9))) := rfl
  cases h1 : ((c.toNat : Int) == 32) <;> cases h2 : ((c.toNat : Int) == 9)
  all_goals
    go_enter Try.func12, Try.ntmps12
    go_wp2
    go_ret
    exact ⟨ret_bool (by rw [HD.out]; simp [h1, h2]), rfl⟩

set_option maxHeartbeats 400000 in
theorem nameB_any (c : UInt8) (w : World) :
    Calls Try.prog 16 #[.int .u8 (c.toNat : Int)] w fun e w' => e = .returned (.bool (Plain.nameB c)) ∧ w' = w := by
  have HD : Hid (Plain.nameB c = (((c.toNat : Int) == 95) || Plain.digit c || (decide ((97 : Int) ≤ (c.toNat : Int)) && decide ((c.toNat : Int) ≤ 122)))) := rfl
  cases h1 : ((c.toNat : Int) == 95) <;> cases hd : Plain.digit c <;> by_cases h3 : (97 : Int) ≤ (c.toNat : Int) <;> by_cases h4 : (c.toNat : Int) ≤ 122
  all_goals
    go_enter Try.func16, Try.ntmps16
    go_wp2_with (go_at_call 20; refine (digit_any c _).mono ?_; rintro e w' ⟨rfl, rfl⟩)
    all_goals
      go_ret
      exact ⟨ret_bool (by rw [HD.out]; simp [h1, hd, h3, h4]), rfl⟩

/-! ### the parser's methods, over a parser that lies in a block of the call's own -/

/-- What a round carries: the parser at block b holds s and stands at k; of what lay before W nothing has turned. -/
structure At (W : World) (b : Nat) (s : ByteArray) (k : Nat) (w : World) : Prop where
  grown : Grown W w
  own : W.heap.size ≤ b
  text : w.cell? ⟨b, 0, none⟩ = some (.string s)
  pos : w.cell? ⟨b, 1, none⟩ = some (.int .i64 k)
  free : w.frozen? ⟨b, 1, none⟩ = false

theorem grown_drewN {W w : World} (h : Grown W w) (n : Nat) : Grown W (w.drewN n) := h

theorem At.drewN {W : World} {b : Nat} {s : ByteArray} {k : Nat} {w : World} (h : At W b s k w) (n : Nat) : At W b s k (w.drewN n) :=
  ⟨grown_drewN h.grown n, h.own, h.text, h.pos, h.free⟩

theorem At.set {W : World} {b : Nat} {s : ByteArray} {k : Nat} {w : World} (h : At W b s k w) (n : Nat) : At W b s (k + 1) ((w.drewN n).setCell ⟨b, 1, none⟩ (.int .i64 ((k : Int) + 1))) := by
  have h' := h.drewN n
  refine ⟨h'.grown.setCell h.own _, h.own, ?_, ?_, ?_⟩
  · exact (World.cell?_setCell_other _ _ _ _ (by simp)).trans h'.text
  · exact World.cell?_setCell_same _ _ _ h'.pos
  · rw [World.frozen?_setCell]; exact h'.free

set_option maxHeartbeats 400000 in
theorem digits_any (s : ByteArray) (b k0 : Nat) (W w : World) (hs : s.size ≤ maxLen) (hk : k0 ≤ s.size) (hat : At W b s k0 w) :
    Calls Try.prog 25 #[.pointer (some ⟨b, 0, none⟩)] w fun e w' => e = .returned (.tuple #[]) ∧ At W b s (Plain.stop Plain.digit s k0) w' := by
  unfold maxLen at hs
  go_enter Try.func25, Try.ntmps25
  go_wp2
  go_loopg [] (s.size - k0) (fun g wr => ∃ k : Nat, k ≤ s.size ∧ g = s.size - k ∧ Plain.stop Plain.digit s k = Plain.stop Plain.digit s k0 ∧ At W b s k wr)
  case atStart => exact ⟨k0, hk, rfl, rfl, hat⟩
  case round =>
    obtain ⟨k, hks, hgk, hst, hr⟩ := hrel
    have HG : Hid (gk = s.size - k) := hgk
    have HS : Hid (Plain.stop Plain.digit s k = Plain.stop Plain.digit s k0) := hst
    have d0 := hr.text
    have d1 := hr.pos
    have e1 := hr.free
    clear hgk hst hat
    by_cases hlt : k < s.size
    · cases hd : Plain.digit s[k]
      · go_wp2
        go_quiet ((go_at_call 26; exact Calls.quiet_of_same (isDigit_any _ _)))
        go_wp2
        go_end0
        exact ⟨rfl, by rw [← HS.out, Plain.stop_halt _ s k hlt hd]; exact hr.drewN _⟩
      · go_wp2
        go_quiet ((go_at_call 26; exact Calls.quiet_of_same (isDigit_any _ _)))
        go_wp2
        go_roundg (s.size - (k + 1))
        case measure => rw [HG.out]; omega
        case rel => exact ⟨k + 1, by omega, rfl, by rw [← HS.out, Plain.stop_step _ s k hlt hd], hr.set _⟩
    · have hdl : decide ((k : Int) < (s.size : Int)) = false := by simp; omega
      go_wp2
      go_quiet ((go_at_call 26; exact Calls.quiet_of_same (isDigit_any _ _)))
      go_wp2
      go_end0
      exact ⟨rfl, by rw [← HS.out, Plain.stop_end _ s k (by omega)]; exact hr.drewN _⟩

set_option maxHeartbeats 1000000 in
theorem peek_any (s : ByteArray) (b k0 : Nat) (W w : World) (hs : s.size ≤ maxLen) (hk : k0 ≤ s.size) (hat : At W b s k0 w) :
    Calls Try.prog 23 #[.pointer (some ⟨b, 0, none⟩)] w fun e w' => e = .returned (.int .u8 (Plain.byteAt s (Plain.stop Plain.blank s k0))) ∧ At W b s (Plain.stop Plain.blank s k0) w' := by
  unfold maxLen at hs
  go_enter Try.func23, Try.ntmps23
  go_wp2
  go_loopg [] (s.size - k0) (fun g wr => ∃ k : Nat, k ≤ s.size ∧ g = s.size - k ∧ Plain.stop Plain.blank s k = Plain.stop Plain.blank s k0 ∧ At W b s k wr)
  case atStart => exact ⟨k0, hk, rfl, rfl, hat⟩
  case round =>
    obtain ⟨k, hks, hgk, hst, hr⟩ := hrel
    have HG : Hid (gk = s.size - k) := hgk
    have HS : Hid (Plain.stop Plain.blank s k = Plain.stop Plain.blank s k0) := hst
    have d0 := hr.text
    have d1 := hr.pos
    have e1 := hr.free
    clear hgk hst hat
    by_cases hlt : k < s.size
    · cases x1 : ((s[k].toNat : Int) == 32)
      · cases x2 : ((s[k].toNat : Int) == 9)
        · have HB : Hid (Plain.stop Plain.blank s k0 = k) := by rw [← HS.out]; exact Plain.stop_halt _ s k hlt (by unfold Plain.blank; rw [x1, x2]; rfl)
          have hne : ((k : Int) == (s.size : Int)) = false := beq_eq_false_iff_ne.2 (by omega)
          go_wp2
          go_quiet (fail)
          go_wp2
          go_quiet (fail)
          go_wp2
          go_quiet (fail)
          go_wp2
          go_ret
          exact ⟨by rw [HB.out, Plain.byteAt_lt hlt]; rfl, by rw [HB.out]; exact ((hr.drewN _).drewN _).drewN _⟩
        · have HB : Hid (Plain.blank s[k] = true) := by unfold Plain.blank; rw [x1, x2]; exact rfl
          go_wp2
          go_quiet (fail)
          go_wp2
          go_roundg (s.size - (k + 1))
          case measure => rw [HG.out]; omega
          case rel => exact ⟨k + 1, by omega, rfl, by rw [← HS.out, Plain.stop_step _ s k hlt HB.out], hr.set _⟩
      · have HB : Hid (Plain.blank s[k] = true) := by unfold Plain.blank; rw [x1]; exact rfl
        go_wp2
        go_quiet (fail)
        go_wp2
        go_roundg (s.size - (k + 1))
        case measure => rw [HG.out]; omega
        case rel => exact ⟨k + 1, by omega, rfl, by rw [← HS.out, Plain.stop_step _ s k hlt HB.out], hr.set _⟩
    · have hdl : decide ((k : Int) < (s.size : Int)) = false := by simp; omega
      have heq : ((k : Int) == (s.size : Int)) = true := beq_iff_eq.2 (by omega)
      have HB : Hid (Plain.stop Plain.blank s k0 = k) := by rw [← HS.out]; exact Plain.stop_end _ s k (by omega)
      go_wp2
      go_quiet (fail)
      go_wp2
      go_quiet (fail)
      go_wp2
      go_ret
      exact ⟨by rw [HB.out, Plain.byteAt_ge (by omega)]; rfl, by rw [HB.out]; exact (hr.drewN _).drewN _⟩

end Go.Proofs.Qxb6617132a
