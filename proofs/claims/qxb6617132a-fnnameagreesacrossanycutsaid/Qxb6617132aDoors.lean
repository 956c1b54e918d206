/-
  THE WALKS of the three doors ZZPeek, ZZName, ZZDigits.
-/
import Derived.Test.Qxb6617132aName
namespace Go.Proofs.Qxb6617132a
open Go.RowKit

theorem at_new (w : World) (s : ByteArray) (k : Nat) : At w w.heap.size s k (w.alloc (.cells #[.string s, .int .i64 (k : Int)] 32)) := by
  refine ⟨(Grown.refl w).alloc _ _, Nat.le_refl _, ?_, ?_, ?_⟩
  · exact World.cell?_alloc_new w _ _ 0
  · exact World.cell?_alloc_new w _ _ 1
  · rw [frozen?_alloc_cells]
    simp [World.frozen?]

set_option maxHeartbeats 400000 in
theorem ZZDigits_any (s : ByteArray) (k : Nat) (w : World) (hs : s.size ≤ maxLen) (hk : k ≤ s.size) :
    Calls Try.prog 19 #[.string s, .int .i64 (k : Int)] w fun e w' => e = .returned (.int .i64 (Plain.stop Plain.digit s k : Nat)) ∧ Grown w w' := by
  go_enter Try.func19, Try.ntmps19
  go_wp2_with fail
  refine (digits_any s w.heap.size k w _ hs hk (by exact at_new w s k)).mono ?_
  rintro e w1 ⟨rfl, h1⟩
  have c1 := h1.pos
  go_wp2
  go_ret
  exact ⟨rfl, h1.grown⟩

set_option maxHeartbeats 400000 in
theorem ZZPeek_any (s : ByteArray) (k : Nat) (w : World) (hs : s.size ≤ maxLen) (hk : k ≤ s.size) :
    Calls Try.prog 11 #[.string s, .int .i64 (k : Int)] w fun e w' => e = .returned (.tuple #[.int .u8 (Plain.byteAt s (Plain.stop Plain.blank s k)), .int .i64 (Plain.stop Plain.blank s k : Nat)]) ∧ Grown w w' := by
  go_enter Try.func11, Try.ntmps11
  go_wp2_with fail
  refine (peek_any s w.heap.size k w _ hs hk (by exact at_new w s k)).mono ?_
  rintro e w1 ⟨rfl, h1⟩
  have c1 := h1.pos
  go_wp2
  go_quiet (fail)
  go_wp2
  go_ret2
  exact ⟨rfl, (h1.drewN _).grown⟩

set_option maxHeartbeats 400000 in
theorem ZZName_any (s : ByteArray) (k : Nat) (w : World) (hs : s.size ≤ maxLen) (hk : k ≤ s.size) :
    Calls Try.prog 15 #[.string s, .int .i64 (k : Int)] w fun e w' => e = .returned (.tuple #[.string (s.extract k (Plain.stop Plain.nameB s k)), .int .i64 (Plain.stop Plain.nameB s k : Nat)]) ∧ Grown w w' := by
  go_enter Try.func15, Try.ntmps15
  go_wp2_with fail
  refine (name_any s w.heap.size k w _ hs hk (by exact at_new w s k)).mono ?_
  rintro e w1 ⟨rfl, h1⟩
  have c1 := h1.pos
  go_wp2
  go_quiet (fail)
  go_wp2
  go_ret2
  exact ⟨rfl, (h1.drewN _).grown⟩

end Go.Proofs.Qxb6617132a
