/-
  THE WALKS of the bounds on total length, one function a law; and the doors' contracts at names.
-/
import Derived.Test.Qxb6617132aDoors
namespace Go.Proofs.Qxb6617132a
open Go.RowKit

/-! ### the bounds over one string -/

set_option maxHeartbeats 400000 in
theorem bytes10_yes (s : ByteArray) (a : Int) (w : World) (h : s.size ≤ 1048576) :
    Calls Try.prog 10 #[.string s, .int .i64 a] w fun e w' => e = .returned (.bool true) ∧ w' = w := by
  go_enter Try.func10, Try.ntmps10
  go_wp2
  go_ret
  exact ⟨rfl, rfl⟩

set_option maxHeartbeats 400000 in
theorem bytes10_no (s : ByteArray) (a : Int) (w : World) (h : 1048576 < s.size) :
    Calls Try.prog 10 #[.string s, .int .i64 a] w fun e w' => e = .returned (.bool false) ∧ w' = w := by
  go_enter Try.func10, Try.ntmps10
  go_wp2
  go_ret
  exact ⟨rfl, rfl⟩

set_option maxHeartbeats 400000 in
theorem bytes14_yes (s : ByteArray) (a : Int) (w : World) (h : s.size ≤ 1048576) :
    Calls Try.prog 14 #[.string s, .int .i64 a] w fun e w' => e = .returned (.bool true) ∧ w' = w := by
  go_enter Try.func14, Try.ntmps14
  go_wp2
  go_ret
  exact ⟨rfl, rfl⟩

set_option maxHeartbeats 400000 in
theorem bytes14_no (s : ByteArray) (a : Int) (w : World) (h : 1048576 < s.size) :
    Calls Try.prog 14 #[.string s, .int .i64 a] w fun e w' => e = .returned (.bool false) ∧ w' = w := by
  go_enter Try.func14, Try.ntmps14
  go_wp2
  go_ret
  exact ⟨rfl, rfl⟩

set_option maxHeartbeats 400000 in
theorem bytes18_yes (s : ByteArray) (a : Int) (w : World) (h : s.size ≤ 1048576) :
    Calls Try.prog 18 #[.string s, .int .i64 a] w fun e w' => e = .returned (.bool true) ∧ w' = w := by
  go_enter Try.func18, Try.ntmps18
  go_wp2
  go_ret
  exact ⟨rfl, rfl⟩

set_option maxHeartbeats 400000 in
theorem bytes18_no (s : ByteArray) (a : Int) (w : World) (h : 1048576 < s.size) :
    Calls Try.prog 18 #[.string s, .int .i64 a] w fun e w' => e = .returned (.bool false) ∧ w' = w := by
  go_enter Try.func18, Try.ntmps18
  go_wp2
  go_ret
  exact ⟨rfl, rfl⟩

set_option maxHeartbeats 400000 in
theorem bytes22_yes (s : ByteArray) (a : Int) (w : World) (h : s.size ≤ 1048576) :
    Calls Try.prog 22 #[.string s, .int .i64 a] w fun e w' => e = .returned (.bool true) ∧ w' = w := by
  go_enter Try.func22, Try.ntmps22
  go_wp2
  go_ret
  exact ⟨rfl, rfl⟩

set_option maxHeartbeats 400000 in
theorem bytes22_no (s : ByteArray) (a : Int) (w : World) (h : 1048576 < s.size) :
    Calls Try.prog 22 #[.string s, .int .i64 a] w fun e w' => e = .returned (.bool false) ∧ w' = w := by
  go_enter Try.func22, Try.ntmps22
  go_wp2
  go_ret
  exact ⟨rfl, rfl⟩

/-! ### the bounds over two strings -/

set_option maxHeartbeats 400000 in
theorem bytes13_any (s t : ByteArray) (a : Int) (w : World) (hs : s.size ≤ maxLen) (ht : t.size ≤ maxLen) :
    Calls Try.prog 13 #[.string s, .string t, .int .i64 a] w fun e w' => e = .returned (.bool (decide (s.size + t.size ≤ 1048576))) ∧ w' = w := by
  have HD : Hid (∀ b : Bool, (b = true ↔ s.size + t.size ≤ 1048576) → Ending.returned (.bool b) = .returned (.bool (decide (s.size + t.size ≤ 1048576)))) := fun b h => ret_bool (by rw [Bool.eq_iff_iff, h]; simp)
  unfold maxLen at hs ht
  by_cases h1 : s.size ≤ 1048576
  · by_cases h2 : t.size ≤ 1048576
    · by_cases h3 : s.size + t.size ≤ 1048576
      all_goals
        go_enter Try.func13, Try.ntmps13
        go_wp2
        go_ret
        exact ⟨HD.out _ (by simp; omega), rfl⟩
    · go_enter Try.func13, Try.ntmps13
      go_wp2
      go_ret
      exact ⟨HD.out _ (by simp; omega), rfl⟩
  · go_enter Try.func13, Try.ntmps13
    go_wp2
    go_ret
    exact ⟨HD.out _ (by simp; omega), rfl⟩

theorem bytes13_yes (s t : ByteArray) (a : Int) (w : World) (hs : s.size ≤ maxLen) (ht : t.size ≤ maxLen) (h : s.size + t.size ≤ 1048576) :
    Calls Try.prog 13 #[.string s, .string t, .int .i64 a] w fun e w' => e = .returned (.bool true) ∧ w' = w := by
  have := bytes13_any s t a w hs ht
  rwa [decide_eq_true h] at this

theorem bytes13_no (s t : ByteArray) (a : Int) (w : World) (hs : s.size ≤ maxLen) (ht : t.size ≤ maxLen) (h : 1048576 < s.size + t.size) :
    Calls Try.prog 13 #[.string s, .string t, .int .i64 a] w fun e w' => e = .returned (.bool false) ∧ w' = w := by
  have := bytes13_any s t a w hs ht
  rwa [decide_eq_false (by omega)] at this

set_option maxHeartbeats 400000 in
theorem bytes17_any (s t : ByteArray) (a : Int) (w : World) (hs : s.size ≤ maxLen) (ht : t.size ≤ maxLen) :
    Calls Try.prog 17 #[.string s, .string t, .int .i64 a] w fun e w' => e = .returned (.bool (decide (s.size + t.size ≤ 1048576))) ∧ w' = w := by
  have HD : Hid (∀ b : Bool, (b = true ↔ s.size + t.size ≤ 1048576) → Ending.returned (.bool b) = .returned (.bool (decide (s.size + t.size ≤ 1048576)))) := fun b h => ret_bool (by rw [Bool.eq_iff_iff, h]; simp)
  unfold maxLen at hs ht
  by_cases h1 : s.size ≤ 1048576
  · by_cases h2 : t.size ≤ 1048576
    · by_cases h3 : s.size + t.size ≤ 1048576
      all_goals
        go_enter Try.func17, Try.ntmps17
        go_wp2
        go_ret
        exact ⟨HD.out _ (by simp; omega), rfl⟩
    · go_enter Try.func17, Try.ntmps17
      go_wp2
      go_ret
      exact ⟨HD.out _ (by simp; omega), rfl⟩
  · go_enter Try.func17, Try.ntmps17
    go_wp2
    go_ret
    exact ⟨HD.out _ (by simp; omega), rfl⟩

theorem bytes17_yes (s t : ByteArray) (a : Int) (w : World) (hs : s.size ≤ maxLen) (ht : t.size ≤ maxLen) (h : s.size + t.size ≤ 1048576) :
    Calls Try.prog 17 #[.string s, .string t, .int .i64 a] w fun e w' => e = .returned (.bool true) ∧ w' = w := by
  have := bytes17_any s t a w hs ht
  rwa [decide_eq_true h] at this

theorem bytes17_no (s t : ByteArray) (a : Int) (w : World) (hs : s.size ≤ maxLen) (ht : t.size ≤ maxLen) (h : 1048576 < s.size + t.size) :
    Calls Try.prog 17 #[.string s, .string t, .int .i64 a] w fun e w' => e = .returned (.bool false) ∧ w' = w := by
  have := bytes17_any s t a w hs ht
  rwa [decide_eq_false (by omega)] at this

set_option maxHeartbeats 400000 in
theorem bytes21_any (s t : ByteArray) (a : Int) (w : World) (hs : s.size ≤ maxLen) (ht : t.size ≤ maxLen) :
    Calls Try.prog 21 #[.string s, .string t, .int .i64 a] w fun e w' => e = .returned (.bool (decide (s.size + t.size ≤ 1048576))) ∧ w' = w := by
  have HD : Hid (∀ b : Bool, (b = true ↔ s.size + t.size ≤ 1048576) → Ending.returned (.bool b) = .returned (.bool (decide (s.size + t.size ≤ 1048576)))) := fun b h => ret_bool (by rw [Bool.eq_iff_iff, h]; simp)
  unfold maxLen at hs ht
  by_cases h1 : s.size ≤ 1048576
  · by_cases h2 : t.size ≤ 1048576
    · by_cases h3 : s.size + t.size ≤ 1048576
      all_goals
        go_enter Try.func21, Try.ntmps21
        go_wp2
        go_ret
        exact ⟨HD.out _ (by simp; omega), rfl⟩
    · go_enter Try.func21, Try.ntmps21
      go_wp2
      go_ret
      exact ⟨HD.out _ (by simp; omega), rfl⟩
  · go_enter Try.func21, Try.ntmps21
    go_wp2
    go_ret
    exact ⟨HD.out _ (by simp; omega), rfl⟩

theorem bytes21_yes (s t : ByteArray) (a : Int) (w : World) (hs : s.size ≤ maxLen) (ht : t.size ≤ maxLen) (h : s.size + t.size ≤ 1048576) :
    Calls Try.prog 21 #[.string s, .string t, .int .i64 a] w fun e w' => e = .returned (.bool true) ∧ w' = w := by
  have := bytes21_any s t a w hs ht
  rwa [decide_eq_true h] at this

theorem bytes21_no (s t : ByteArray) (a : Int) (w : World) (hs : s.size ≤ maxLen) (ht : t.size ≤ maxLen) (h : 1048576 < s.size + t.size) :
    Calls Try.prog 21 #[.string s, .string t, .int .i64 a] w fun e w' => e = .returned (.bool false) ∧ w' = w := by
  have := bytes21_any s t a w hs ht
  rwa [decide_eq_false (by omega)] at this

/-! ### the doors' contracts, their answers under names -/

theorem ZZPeek_at (s : ByteArray) (k q : Nat) (c : Int) (w : World) (hs : s.size ≤ maxLen) (hk : k ≤ s.size) (hq : Hid (Plain.stop Plain.blank s k = q)) (hc : Hid (Plain.byteAt s q = c)) :
    Calls Try.prog 11 #[.string s, .int .i64 (k : Int)] w fun e w' => e = .returned (.tuple #[.int .u8 c, .int .i64 (q : Int)]) ∧ Grown w w' := by
  have := ZZPeek_any s k w hs hk
  rwa [hq.out, hc.out] at this

theorem ZZDigits_at (s : ByteArray) (k q : Nat) (w : World) (hs : s.size ≤ maxLen) (hk : k ≤ s.size) (hq : Hid (Plain.stop Plain.digit s k = q)) :
    Calls Try.prog 19 #[.string s, .int .i64 (k : Int)] w fun e w' => e = .returned (.int .i64 (q : Int)) ∧ Grown w w' := by
  have := ZZDigits_any s k w hs hk
  rwa [hq.out] at this

theorem ZZName_at (s : ByteArray) (k q : Nat) (n : ByteArray) (w : World) (hs : s.size ≤ maxLen) (hk : k ≤ s.size) (hq : Hid (Plain.stop Plain.nameB s k = q)) (hn : Hid (s.extract k q = n)) :
    Calls Try.prog 15 #[.string s, .int .i64 (k : Int)] w fun e w' => e = .returned (.tuple #[.string n, .int .i64 (q : Int)]) ∧ Grown w w' := by
  have := ZZName_any s k w hs hk
  rwa [hq.out, hn.out] at this

theorem grown_trans {a b c : World} (h : Grown a b) (k : Grown b c) : Grown a c :=
  ⟨World.keptBut_trans h.1 k.1, fun x => (k.2.1 x).trans (h.2.1 x), Nat.le_trans h.2.2 k.2.2⟩

end Go.Proofs.Qxb6617132a
