/-
  THE PLAIN LAWS ON TYPE-LENGTH-VALUE ROWS: no Go in sight.
-/
namespace Go.Proofs.Qxb6601953a.Plain

/-- The offset of element k of a row of type-length-value elements, back to back. -/
def offAt (xs : List Int) : Nat → Nat
  | 0 => 0
  | k + 1 => offAt xs k + 2 + (xs.getD (offAt xs k + 1) 0).toNat

theorem offAt_zero (xs : List Int) : offAt xs 0 = 0 := rfl
theorem offAt_succ (xs : List Int) (k : Nat) : offAt xs (k + 1) = offAt xs k + 2 + (xs.getD (offAt xs k + 1) 0).toNat := rfl

theorem offAt_le (xs : List Int) (j k : Nat) (h : j ≤ k) : offAt xs j ≤ offAt xs k := by
  induction k with
  | zero => obtain rfl : j = 0 := by omega
            exact Nat.le_refl _
  | succ k ih =>
    by_cases e : j = k + 1
    · subst e; exact Nat.le_refl _
    · have := ih (by omega)
      rw [offAt_succ]; omega

theorem offAt_two (xs : List Int) (k : Nat) : 2 * k ≤ offAt xs k := by
  induction k with
  | zero => omega
  | succ k ih => rw [offAt_succ]; omega

theorem getD_drop (xs : List Int) (p i : Nat) : (xs.drop p).getD i 0 = xs.getD (p + i) 0 := by
  simp [List.getD]

/-- What follows the first element: each index shifts down by one. -/
theorem offAt_shift (xs : List Int) (k : Nat) : offAt xs (k + 1) = offAt xs 1 + offAt (xs.drop (offAt xs 1)) k := by
  induction k with
  | zero => simp [offAt_zero]
  | succ k ih =>
    rw [offAt_succ xs (k + 1), offAt_succ (xs.drop _) k, getD_drop, ← Nat.add_assoc (offAt xs 1) (offAt _ k) 1, ← ih]
    omega

theorem offAt_one (xs : List Int) (m0 : Nat) (h : xs.getD 1 0 = (m0 : Int)) : offAt xs 1 = 2 + m0 := by
  rw [offAt_succ, offAt_zero, h]; omega

theorem offAt_rest (xs : List Int) (m0 p i : Nat) (h : xs.getD 1 0 = (m0 : Int)) (hp : offAt xs (i + 1) = p) : offAt (xs.drop (2 + m0)) i = p - (2 + m0) := by
  have := offAt_shift xs i
  rw [offAt_one xs m0 h, hp] at this
  omega

end Go.Proofs.Qxb6601953a.Plain
