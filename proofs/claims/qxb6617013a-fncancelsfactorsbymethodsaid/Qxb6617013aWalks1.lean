/-
  THE WALKS of ZZnewServerTransaction and Cancels, and of the bound on total length.
-/
import Derived.Test.Qxb6617013aRows
import Derived.WalkKit
import Derived.WalkSpells
import Derived.WalkLawsBesides
import Derived.BigQuiet
namespace Go.Proofs.Qxb6617013a
open Go.RowKit

/-- The method reads CANCEL; reads INVITE. -/
def isC (m : ByteArray) : Bool := m.toList == [67, 65, 78, 67, 69, 76]
def isI (m : ByteArray) : Bool := m.toList == [73, 78, 86, 73, 84, 69]

theorem isC_isI (m : ByteArray) (h : isC m = true) : isI m = false := by
  unfold isC at h
  unfold isI
  rw [beq_iff_eq] at h
  rw [h]
  decide

/-- A later world: new blocks and draws alone; each cell that was there reads as it did. -/
def Later (w w' : World) : Prop := Grown w w' ∧ ∀ a v, w.cell? a = some v → w'.cell? a = some v

theorem Later.refl (w : World) : Later w w := ⟨Grown.refl w, fun _ _ h => h⟩

theorem Later.trans {a b c : World} (h : Later a b) (k : Later b c) : Later a c :=
  ⟨⟨World.keptBut_trans h.1.1 k.1.1, fun x => (k.1.2.1 x).trans (h.1.2.1 x), Nat.le_trans h.1.2.2 k.1.2.2⟩, fun x v q => k.2 x v (h.2 x v q)⟩

theorem Later.drewN (w : World) (n : Nat) : Later w (w.drewN n) := ⟨Grown.refl w, fun _ _ h => h⟩

theorem block_of_cell {w : World} {a : Addr} {v : Value} (h : w.cell? a = some v) : a.block < w.heap.size := by
  rcases Nat.lt_or_ge a.block w.heap.size with h' | h'
  · exact h'
  · exfalso
    unfold World.cell? at h
    rw [Array.getElem?_eq_none h'] at h
    simp at h

theorem Later.alloc (w : World) (c : Array Value) (t : TypeId) : Later w (w.alloc (.cells c t)) :=
  ⟨(Grown.refl w).alloc c t, fun a v h => by rw [World.cell?_alloc_lt w _ a (block_of_cell h)]; exact h⟩

/-- A transaction at block x: its request's method m, its key's branch b and sent-by s. -/
structure Tx (x : Nat) (m b s : ByteArray) (w : World) : Prop where
  branch : w.cell? ⟨x, 1, none⟩ = some (.string b)
  sentBy : w.cell? ⟨x, 2, none⟩ = some (.string s)
  req : ∃ r, w.cell? ⟨x, 4, none⟩ = some (.pointer (some ⟨r, 0, none⟩)) ∧ w.cell? ⟨r, 0, none⟩ = some (.string m)

theorem Tx.later {x : Nat} {m b s : ByteArray} {w w' : World} (h : Tx x m b s w) (k : Later w w') : Tx x m b s w' := by
  obtain ⟨h1, h2, r, h3, h4⟩ := h
  exact ⟨k.2 _ _ h1, k.2 _ _ h2, r, k.2 _ _ h3, k.2 _ _ h4⟩

theorem cell_next (w : World) (o : Obj) (c : Array Value) (t : TypeId) (i : Nat) : ((w.alloc o).alloc (.cells c t)).cell? ⟨w.heap.size + 1, i, none⟩ = c[i]? := by
  have h := World.cell?_alloc_new (w.alloc o) c t i
  have e : (w.alloc o).heap.size = w.heap.size + 1 := by simp
  rwa [e] at h

set_option maxHeartbeats 400000 in
theorem new_any (m b s : ByteArray) (w : World) :
    Calls Try.prog 5 #[.string m, .string b, .string s] w fun e w' => ∃ x : Nat, e = .returned (.pointer (some ⟨x, 0, none⟩)) ∧ Tx x m b s w' ∧ Later w w' := by
  go_enter Try.func5, Try.ntmps5
  go_wp2
  go_ret
  refine ⟨w.heap.size + 1, rfl, ⟨?_, ?_, w.heap.size, ?_, ?_⟩, (Later.alloc _ _ _).trans (Later.alloc _ _ _)⟩
  · exact cell_next w _ _ _ 1
  · exact cell_next w _ _ _ 2
  · exact cell_next w _ _ _ 4
  · rw [World.cell?_alloc_lt _ _ _ (by simp)]
    exact World.cell?_alloc_new w _ _ 0

set_option maxHeartbeats 1000000 in
theorem cancels_any (m1 m2 b s : ByteArray) (x y : Nat) (v : Bool) (w : World) (h1 : Tx x m1 b s w) (h2 : Tx y m2 b s w) (hv : Hid ((isC m1 && isI m2) = v)) :
    Calls Try.prog 6 #[.pointer (some ⟨x, 0, none⟩), .pointer (some ⟨y, 0, none⟩)] w fun e w' => e = .returned (.bool v) ∧ Later w w' := by
  obtain ⟨a1, a2, r1, a4, a0⟩ := h1
  obtain ⟨b1, b2, r2, b4, b0⟩ := h2
  cases c1 : (m1.toList == [67, 65, 78, 67, 69, 76])
  · have e : Hid (v = false) := by rw [← hv.out]; unfold isC; rw [c1]; exact rfl
    go_enter Try.func6, Try.ntmps6
    go_wp2
    go_quiet (fail)
    go_wp2
    go_ret
    exact ⟨by rw [e.out]; rfl, Later.drewN _ _⟩
  · cases c2 : (m2.toList == [73, 78, 86, 73, 84, 69])
    · have e : Hid (v = false) := by rw [← hv.out]; unfold isC isI; rw [c1, c2]; exact rfl
      go_enter Try.func6, Try.ntmps6
      go_wp2
      go_quiet (fail)
      go_wp2
      go_ret
      exact ⟨by rw [e.out]; rfl, Later.drewN _ _⟩
    · have e : Hid (v = true) := by rw [← hv.out]; unfold isC isI; rw [c1, c2]; exact rfl
      go_enter Try.func6, Try.ntmps6
      go_wp2
      go_quiet (fail)
      go_wp2
      go_ret
      exact ⟨by rw [e.out]; rfl, Later.drewN _ _⟩

set_option maxHeartbeats 1000000 in
theorem bytes_any (a b c d : ByteArray) (w : World) (ha : a.size ≤ 1048576) (hb : b.size ≤ 1048576) (hc : c.size ≤ 1048576) (hd : d.size ≤ 1048576) (h2 : a.size + b.size ≤ 1048576) (h3 : a.size + b.size + c.size ≤ 1048576) (h4 : a.size + b.size + c.size + d.size ≤ 1048576) :
    Calls Try.prog 4 #[.string a, .string b, .string c, .string d] w fun e w' => e = .returned (.bool true) ∧ w' = w := by
  go_enter Try.func4, Try.ntmps4
  go_wp2
  go_ret
  exact ⟨rfl, rfl⟩

/-- Whatever the lengths: a bool comes back, and the world stands; it is true only within the bound. -/
theorem bytes_some (a b c d : ByteArray) (w : World) (ha : a.size ≤ maxLen) (hb : b.size ≤ maxLen) (hc : c.size ≤ maxLen) (hd : d.size ≤ maxLen) (h : 1048576 < a.size + b.size + c.size + d.size) :
    Calls Try.prog 4 #[.string a, .string b, .string c, .string d] w fun e w' => e = .returned (.bool false) ∧ w' = w := by
  unfold maxLen at ha hb hc hd
  by_cases h1 : a.size ≤ 1048576
  · by_cases h2 : b.size ≤ 1048576
    · by_cases h3 : a.size + b.size ≤ 1048576
      · by_cases h4 : c.size ≤ 1048576
        · by_cases h5 : a.size + b.size + c.size ≤ 1048576
          · by_cases h6 : d.size ≤ 1048576
            all_goals
              go_enter Try.func4, Try.ntmps4
              go_wp2
              go_ret
              exact ⟨rfl, rfl⟩
          · go_enter Try.func4, Try.ntmps4
            go_wp2
            go_ret
            exact ⟨rfl, rfl⟩
        · go_enter Try.func4, Try.ntmps4
          go_wp2
          go_ret
          exact ⟨rfl, rfl⟩
      · go_enter Try.func4, Try.ntmps4
        go_wp2
        go_ret
        exact ⟨rfl, rfl⟩
    · go_enter Try.func4, Try.ntmps4
      go_wp2
      go_ret
      exact ⟨rfl, rfl⟩
  · go_enter Try.func4, Try.ntmps4
    go_wp2
    go_ret
    exact ⟨rfl, rfl⟩

end Go.Proofs.Qxb6617013a
