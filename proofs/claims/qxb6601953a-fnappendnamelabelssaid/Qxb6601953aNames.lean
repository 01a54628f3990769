/-
  THE PLAIN LAWS ON NAMES IN DOTTED FORM: no Go in sight.
-/
namespace Go.Proofs.Qxb6601953a.Names

/-- The place of label k's length octet. -/
def posAt (vs : List Int) : Nat → Nat
  | 0 => 0
  | k + 1 => posAt vs k + 1 + (vs.getD (posAt vs k) 0).toNat

/-- The name with a dot in the place of the length octets of labels 1 to k. -/
def mark (vs : List Int) : Nat → List Int
  | 0 => vs
  | k + 1 => (mark vs k).set (posAt vs (k + 1)) 46

/-- dst, then the labels, a dot between each two. -/
def named (ds vs : List Int) : List Int := ds ++ (mark vs vs.length).drop 1

theorem posAt_zero (vs : List Int) : posAt vs 0 = 0 := rfl
theorem posAt_succ (vs : List Int) (k : Nat) : posAt vs (k + 1) = posAt vs k + 1 + (vs.getD (posAt vs k) 0).toNat := rfl
theorem mark_zero (vs : List Int) : mark vs 0 = vs := rfl
theorem mark_succ (vs : List Int) (k : Nat) : mark vs (k + 1) = (mark vs k).set (posAt vs (k + 1)) 46 := rfl

theorem mark_length (vs : List Int) (k : Nat) : (mark vs k).length = vs.length := by
  induction k with
  | zero => rfl
  | succ k ih => rw [mark_succ, List.length_set, ih]

theorem posAt_lt (vs : List Int) (k : Nat) : posAt vs k < posAt vs (k + 1) := by rw [posAt_succ]; omega

theorem posAt_ge (vs : List Int) (k : Nat) : k ≤ posAt vs k := by
  induction k with
  | zero => omega
  | succ k ih => have := posAt_lt vs k; omega

theorem posAt_le (vs : List Int) (j k : Nat) (h : j ≤ k) : posAt vs j ≤ posAt vs k := by
  induction k with
  | zero => obtain rfl : j = 0 := by omega
            exact Nat.le_refl _
  | succ k ih =>
    by_cases e : j = k + 1
    · subst e; exact Nat.le_refl _
    · have := ih (by omega)
      have := posAt_lt vs k
      omega

theorem mark_beyond (vs : List Int) (k q : Nat) (h : posAt vs k < q) : (mark vs k)[q]? = vs[q]? := by
  induction k with
  | zero => rfl
  | succ k ih =>
    have := posAt_lt vs k
    rw [mark_succ, List.getElem?_set_ne (by omega)]
    exact ih (by omega)

theorem mark_drop (vs : List Int) (k : Nat) : (mark vs k).drop (posAt vs k + 1) = vs.drop (posAt vs k + 1) := by
  apply List.ext_getElem?
  intro j
  rw [List.getElem?_drop, List.getElem?_drop, mark_beyond vs k _ (by omega)]

theorem mark_at (vs : List Int) (k : Nat) (h : posAt vs (k + 1) < vs.length) : (mark vs (k + 1))[posAt vs (k + 1)]? = some 46 := by
  rw [mark_succ, List.getElem?_set_self (by rw [mark_length]; exact h)]

theorem mark_stay (vs : List Int) (k j : Nat) (h : vs.length ≤ posAt vs (k + 1)) : mark vs (k + j) = mark vs k := by
  induction j with
  | zero => rfl
  | succ j ih =>
    rw [← Nat.add_assoc, mark_succ, ih]
    apply List.set_eq_of_length_le
    rw [mark_length]
    exact Nat.le_trans h (posAt_le vs _ _ (by omega))

theorem mark_final (vs : List Int) (k : Nat) (h : vs.length ≤ posAt vs (k + 1)) : mark vs k = mark vs vs.length := by
  by_cases hk : k ≤ vs.length
  · have := mark_stay vs k (vs.length - k) h
    rw [show k + (vs.length - k) = vs.length by omega] at this
    exact this.symm
  · have := mark_stay vs vs.length (k - vs.length) (by have := posAt_ge vs (vs.length + 1); omega)
    rw [show vs.length + (k - vs.length) = k by omega] at this
    exact this

/-! ### appendName's loop -/
theorem name_start (ds vs : List Int) : ds ++ (mark vs 0).drop 1 = ds ++ vs.drop 1 := rfl

theorem name_step (ds vs : List Int) (k j : Nat) (hj : j + 1 = ds.length + posAt vs (k + 1)) : (ds ++ (mark vs k).drop 1).set j 46 = ds ++ (mark vs (k + 1)).drop 1 := by
  have h1 := posAt_ge vs (k + 1)
  rw [List.set_append_right _ _ (by omega), mark_succ, List.drop_set, if_neg (by omega), show j - ds.length = posAt vs (k + 1) - 1 by omega]

theorem name_end (ds vs : List Int) (k : Nat) (h : vs.length ≤ posAt vs (k + 1)) : ds ++ (mark vs k).drop 1 = named ds vs := by
  rw [mark_final vs k h]; rfl

/-! ### zzDotted's loop -/
/-- What zzDotted holds after k labels. -/
def part (ds vs : List Int) (k : Nat) : List Int := ds ++ ((mark vs k).take (posAt vs k)).drop 1

theorem part_zero (ds vs : List Int) : part ds vs 0 = ds := by simp [part, posAt_zero]

theorem part_length (ds vs : List Int) (k : Nat) : (part ds vs k).length = ds.length + (min (posAt vs k) vs.length - 1) := by
  simp [part, mark_length]

theorem mark_take_succ (vs : List Int) (k : Nat) : (mark vs (k + 1)).take (posAt vs (k + 1)) = (mark vs k).take (posAt vs (k + 1)) := by
  rw [mark_succ, List.take_set_of_le (Nat.le_refl _)]

theorem take_split (vs : List Int) (k m : Nat) : (mark vs k).take (posAt vs k + 1 + m) = (mark vs k).take (posAt vs k + 1) ++ (vs.drop (posAt vs k + 1)).take m := by
  rw [List.take_add, mark_drop]

theorem part_first (ds vs : List Int) (e : Nat) (he : e = min (posAt vs 1) vs.length - 1) : part ds vs 1 = ds ++ (vs.drop 1).take e := by
  unfold part
  rw [mark_take_succ, mark_zero, List.drop_take]
  congr 1
  apply List.ext_getElem?
  intro i
  rw [List.getElem?_take, List.getElem?_take, List.getElem?_drop]
  by_cases h : i < posAt vs 1 - 1
  · by_cases h2 : i < e
    · rw [if_pos h, if_pos h2]
    · rw [if_pos h, if_neg h2, List.getElem?_eq_none (by omega)]
  · rw [if_neg h, if_neg (by omega)]

theorem part_next (ds vs : List Int) (k e : Nat) (hp : posAt vs (k + 1) < vs.length) (he : e = min (posAt vs (k + 1 + 1)) vs.length - (posAt vs (k + 1) + 1)) :
    part ds vs (k + 1 + 1) = part ds vs (k + 1) ++ [46] ++ (vs.drop (posAt vs (k + 1) + 1)).take e := by
  have h1 := posAt_ge vs (k + 1)
  have hm := mark_length vs (k + 1)
  unfold part
  rw [mark_take_succ vs (k + 1), posAt_succ vs (k + 1), take_split, List.take_add_one, mark_at vs k hp]
  have hl : 1 ≤ ((mark vs (k + 1)).take (posAt vs (k + 1))).length := by rw [List.length_take]; omega
  have e2 : (vs.drop (posAt vs (k + 1) + 1)).take ((vs.getD (posAt vs (k + 1)) 0).toNat) = (vs.drop (posAt vs (k + 1) + 1)).take e := by
    rw [posAt_succ vs (k + 1)] at he
    apply List.ext_getElem?
    intro i
    rw [List.getElem?_take, List.getElem?_take, List.getElem?_drop]
    by_cases h : i < (vs.getD (posAt vs (k + 1)) 0).toNat
    · by_cases h2 : i < e
      · rw [if_pos h, if_pos h2]
      · rw [if_pos h, if_neg h2, List.getElem?_eq_none (by omega)]
    · rw [if_neg h, if_neg (by omega)]
  rw [e2]
  rw [List.drop_append_of_le_length (by rw [List.length_append]; omega), List.drop_append_of_le_length hl]
  simp

theorem part_end (ds vs : List Int) (k : Nat) (h0 : 0 < vs.length) (h : vs.length ≤ posAt vs k) : part ds vs k = named ds vs := by
  obtain ⟨j, rfl⟩ : ∃ j, k = j + 1 := ⟨k - 1, by cases k with | zero => rw [posAt_zero] at h; omega | succ k => omega⟩
  unfold part named
  rw [List.take_of_length_le (by rw [mark_length]; exact h)]
  rw [mark_final vs (j + 1) (Nat.le_trans h (posAt_le vs _ _ (by omega)))]

end Go.Proofs.Qxb6601953a.Names
