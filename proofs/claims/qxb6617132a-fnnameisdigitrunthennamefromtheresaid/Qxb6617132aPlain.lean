/-
  THE PLAIN SIDE: no Go, no program. Where a run of bytes stops, over a byte string; what peek, name and digits answer.
-/
namespace Go.Proofs.Qxb6617132a.Plain

def blank (c : UInt8) : Bool := ((c.toNat : Int) == 32) || ((c.toNat : Int) == 9)
def digit (c : UInt8) : Bool := decide ((48 : Int) ≤ (c.toNat : Int)) && decide ((c.toNat : Int) ≤ 57)
def nameB (c : UInt8) : Bool := ((c.toNat : Int) == 95) || digit c || (decide ((97 : Int) ≤ (c.toNat : Int)) && decide ((c.toNat : Int) ≤ 122))

/-- The end of the run of bytes of kind p that starts at i. -/
def stop (p : UInt8 → Bool) (s : ByteArray) (i : Nat) : Nat := i + ((s.data.toList.drop i).takeWhile p).length

/-- The byte at i, 0 at the end and beyond. -/
def byteAt (s : ByteArray) (i : Nat) : Int := if h : i < s.size then (s[i].toNat : Int) else 0

theorem byteAt_lt {s : ByteArray} {i : Nat} (h : i < s.size) : byteAt s i = (s[i].toNat : Int) := by
  unfold byteAt; rw [dif_pos h]

theorem byteAt_ge {s : ByteArray} {i : Nat} (h : s.size ≤ i) : byteAt s i = 0 := by
  unfold byteAt; rw [dif_neg (by omega)]

theorem drop_cons (s : ByteArray) (i : Nat) (h : i < s.size) : s.data.toList.drop i = s[i] :: s.data.toList.drop (i + 1) := by
  have h' : i < s.data.toList.length := by simpa using h
  rw [List.drop_eq_getElem_cons h']; rfl

section
variable (p : UInt8 → Bool) (s : ByteArray) (i : Nat)

theorem stop_step (h : i < s.size) (hp : p s[i] = true) : stop p s i = stop p s (i + 1) := by
  unfold stop
  rw [drop_cons s i h, List.takeWhile_cons, if_pos hp, List.length_cons]
  omega

theorem stop_halt (h : i < s.size) (hp : p s[i] = false) : stop p s i = i := by
  unfold stop
  rw [drop_cons s i h, List.takeWhile_cons, if_neg (by simp [hp])]
  rfl

theorem stop_end (h : s.size ≤ i) : stop p s i = i := by
  unfold stop
  rw [List.drop_of_length_le (by simpa using h)]
  rfl

theorem stop_ge : i ≤ stop p s i := by unfold stop; omega
end

/-- Upwards from the end: one rule for all that is said of a run. -/
theorem up {s : ByteArray} {P : Nat → Prop} (hend : P s.size) (hstep : ∀ i, i < s.size → P (i + 1) → P i) : ∀ i, i ≤ s.size → P i := by
  have key : ∀ n i, i ≤ s.size → s.size - i = n → P i := by
    intro n
    induction n with
    | zero => intro i hi hn; have e : i = s.size := by omega
              rw [e]; exact hend
    | succ n ih => intro i hi hn; exact hstep i (by omega) (ih (i + 1) (by omega) (by omega))
  exact fun i hi => key _ i hi rfl

theorem stop_le (p : UInt8 → Bool) (s : ByteArray) : ∀ i, i ≤ s.size → stop p s i ≤ s.size := by
  refine up ?_ ?_
  · rw [stop_end p s _ (Nat.le_refl _)]; exact Nat.le_refl _
  · intro i hi ih
    cases hp : p s[i] with
    | true => rw [stop_step p s i hi hp]; exact ih
    | false => rw [stop_halt p s i hi hp]; omega

theorem stop_all (p : UInt8 → Bool) (s : ByteArray) : ∀ i, i ≤ s.size → ∀ j (h : j < s.size), i ≤ j → j < stop p s i → p s[j] = true := by
  refine up ?_ ?_
  · intro j h h1 _; omega
  · intro i hi ih j h h1 h2
    cases hp : p s[i] with
    | true =>
      rw [stop_step p s i hi hp] at h2
      by_cases e : i = j
      · subst e; exact hp
      · exact ih j h (by omega) h2
    | false => rw [stop_halt p s i hi hp] at h2; omega

theorem stop_not (p : UInt8 → Bool) (s : ByteArray) : ∀ i, i ≤ s.size → ∀ (h : stop p s i < s.size), p s[stop p s i] = false := by
  refine up ?_ ?_
  · intro h; have := stop_ge p s s.size; omega
  · intro i hi ih h
    cases hp : p s[i] with
    | true =>
      have e := stop_step p s i hi hp
      have := ih (by omega)
      simpa [e] using this
    | false =>
      have e := stop_halt p s i hi hp
      simpa [e] using hp

theorem stop_stop (p : UInt8 → Bool) (s : ByteArray) (i : Nat) (hi : i ≤ s.size) : stop p s (stop p s i) = stop p s i := by
  by_cases h : stop p s i < s.size
  · exact stop_halt p s _ h (stop_not p s i hi h)
  · exact stop_end p s _ (by omega)

/-- Over an append: inside the first string, or on into the second. -/
theorem size_app (s t : ByteArray) : (s ++ t).size = s.size + t.size := ByteArray.size_append

theorem get_left (s t : ByteArray) (i : Nat) (h : i < s.size) (h' : i < (s ++ t).size) : (s ++ t)[i] = s[i] := by
  exact ByteArray.getElem_append_left h

theorem get_right (s t : ByteArray) (i : Nat) (h : i < t.size) (h' : s.size + i < (s ++ t).size) : (s ++ t)[s.size + i] = t[i] := by
  rw [ByteArray.getElem_append_right (by omega)]
  congr 1
  omega

theorem stop_app_right (p : UInt8 → Bool) (s t : ByteArray) : ∀ i, i ≤ t.size → stop p (s ++ t) (s.size + i) = s.size + stop p t i := by
  refine up ?_ ?_
  · rw [stop_end p t _ (Nat.le_refl _), stop_end p (s ++ t) _ (by rw [size_app]; omega)]
  · intro i hi ih
    have hlt : s.size + i < (s ++ t).size := by rw [size_app]; omega
    have hg := get_right s t i hi hlt
    cases hp : p t[i] with
    | true => rw [stop_step p t i hi hp, stop_step p (s ++ t) _ hlt (by rw [hg]; exact hp)]; exact ih
    | false => rw [stop_halt p t i hi hp, stop_halt p (s ++ t) _ hlt (by rw [hg]; exact hp)]

theorem stop_app_in (p : UInt8 → Bool) (s t : ByteArray) : ∀ i, i ≤ s.size → stop p s i < s.size → stop p (s ++ t) i = stop p s i := by
  refine up ?_ ?_
  · intro h; have := stop_ge p s s.size; omega
  · intro i hi ih h
    have hlt : i < (s ++ t).size := by rw [size_app]; omega
    have hg := get_left s t i hi hlt
    cases hp : p s[i] with
    | true =>
      rw [stop_step p s i hi hp] at h ⊢
      rw [stop_step p (s ++ t) i hlt (by rw [hg]; exact hp)]
      exact ih h
    | false => rw [stop_halt p s i hi hp, stop_halt p (s ++ t) i hlt (by rw [hg]; exact hp)]

theorem stop_app_out (p : UInt8 → Bool) (s t : ByteArray) : ∀ i, i ≤ s.size → stop p s i = s.size → stop p (s ++ t) i = s.size + stop p t 0 := by
  refine up ?_ ?_
  · intro _; exact stop_app_right p s t 0 (Nat.zero_le _)
  · intro i hi ih h
    have hlt : i < (s ++ t).size := by rw [size_app]; omega
    have hg := get_left s t i hi hlt
    cases hp : p s[i] with
    | true =>
      rw [stop_step p s i hi hp] at h
      rw [stop_step p (s ++ t) i hlt (by rw [hg]; exact hp)]
      exact ih h
    | false => rw [stop_halt p s i hi hp] at h; omega

/-- A run of a narrower kind, then the wider run from there, is the wider run. -/
theorem stop_within (p q : UInt8 → Bool) (hpq : ∀ c, p c = true → q c = true) (s : ByteArray) : ∀ i, i ≤ s.size → stop q s i = stop q s (stop p s i) := by
  refine up ?_ ?_
  · rw [stop_end p s _ (Nat.le_refl _)]
  · intro i hi ih
    cases hp : p s[i] with
    | true => rw [stop_step p s i hi hp, stop_step q s i hi (hpq _ hp)]; exact ih
    | false => rw [stop_halt p s i hi hp]

theorem digit_name (c : UInt8) (h : digit c = true) : nameB c = true := by
  unfold nameB; rw [h]; simp

theorem byteAt_app_left (s t : ByteArray) (i : Nat) (h : i < s.size) : byteAt (s ++ t) i = byteAt s i := by
  have h' : i < (s ++ t).size := by rw [size_app]; omega
  rw [byteAt_lt h, byteAt_lt h', get_left s t i h h']

theorem byteAt_app_right (s t : ByteArray) (i : Nat) : byteAt (s ++ t) (s.size + i) = byteAt t i := by
  by_cases h : i < t.size
  · have h' : s.size + i < (s ++ t).size := by rw [size_app]; omega
    rw [byteAt_lt h, byteAt_lt h', get_right s t i h h']
  · rw [byteAt_ge (s := s ++ t) (by rw [size_app]; omega), byteAt_ge (s := t) (by omega)]

/-- Cuts of a string. -/
theorem cut_app (s : ByteArray) (i j k : Nat) (h1 : i ≤ j) (h2 : j ≤ k) : s.extract i j ++ s.extract j k = s.extract i k := by
  rw [ByteArray.extract_append_extract, Nat.min_eq_left h1, Nat.max_eq_right h2]

theorem cut_left (s t : ByteArray) (i j : Nat) (h : j ≤ s.size) : (s ++ t).extract i j = s.extract i j := by
  rw [ByteArray.extract_append, ByteArray.extract_eq_empty_iff.2 (show min (j - s.size) t.size ≤ i - s.size from by omega)]
  simp

theorem cut_over (s t : ByteArray) (i j : Nat) (h : i ≤ s.size) : (s ++ t).extract i (s.size + j) = s.extract i s.size ++ t.extract 0 j := by
  rw [ByteArray.extract_append, show i - s.size = 0 from by omega, show s.size + j - s.size = j from by omega]
  have e : s.extract i (s.size + j) = s.extract i s.size := by
    rw [← cut_app s i s.size (s.size + j) h (by omega), ByteArray.extract_eq_empty_iff.2 (show min (s.size + j) s.size ≤ s.size from by omega)]
    simp
  rw [e]

theorem cut_none (s : ByteArray) (i : Nat) : s.extract i i = ByteArray.empty := by simp

theorem cut_size (s : ByteArray) (i j : Nat) (h : j ≤ s.size) : (s.extract i j).size = j - i := by
  rw [ByteArray.size_extract]; omega

end Go.Proofs.Qxb6617132a.Plain
