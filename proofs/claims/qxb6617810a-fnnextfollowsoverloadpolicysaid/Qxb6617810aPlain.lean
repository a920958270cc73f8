/-
  THE PLAIN LAW of the seat: no Go in sight. The least adequate reduction, by a quotient and by a search; the next reduction.
-/
namespace Go.Proofs.Qxb6617810a

/-- 98 % of the capacity, times what the reduction in force lets through. -/
def budget (c r : Nat) : Nat := c * 98 * (100 - r)
/-- The quotient. -/
def through (c r x : Nat) : Nat := budget c r / (x * 100)
/-- The least reduction. -/
def leastN (c r x : Nat) : Nat := if x = 0 then 0 else if 100 ≤ through c r x then 0 else if through c r x = 0 then 99 else 100 - through c r x

theorem leastN_zero (c r : Nat) : leastN c r 0 = 0 := by simp [leastN]
theorem leastN_none {c r x : Nat} (h : 100 ≤ through c r x) : leastN c r x = 0 := by
  unfold leastN
  by_cases hx : x = 0
  · rw [if_pos hx]
  · rw [if_neg hx, if_pos h]
theorem leastN_all {c r x : Nat} (hx : 1 ≤ x) (h : through c r x = 0) : leastN c r x = 99 := by
  unfold leastN
  rw [if_neg (by omega), if_neg (by omega), if_pos h]
theorem leastN_part {c r x : Nat} (hx : 1 ≤ x) (h : through c r x < 100) (h1 : 1 ≤ through c r x) : leastN c r x = 100 - through c r x := by
  unfold leastN
  rw [if_neg (by omega), if_neg (by omega), if_neg (by omega)]
theorem leastN_le (c r x : Nat) : leastN c r x ≤ 99 := by
  unfold leastN
  split
  · omega
  · split
    · omega
    · split <;> omega

theorem budget_le {c : Nat} (r : Nat) (h : c ≤ 1882320823847913) : budget c r ≤ 18446744073709551615 := by
  unfold budget
  have h1 : c * 98 ≤ 1882320823847913 * 98 := Nat.mul_le_mul_right _ h
  have h2 : c * 98 * (100 - r) ≤ 1882320823847913 * 98 * 100 := Nat.mul_le_mul h1 (by omega)
  omega

/-- The model's test at i, by the quotient. -/
theorem hit_iff {c r x i : Nat} (hx : 1 ≤ x) (hi : i < 100) : x * 100 ≤ budget c r / (100 - i) ↔ 100 - i ≤ through c r x := by
  unfold through
  rw [Nat.le_div_iff_mul_le (by omega), Nat.le_div_iff_mul_le (by omega), Nat.mul_comm]

/-- Where the search stops. -/
theorem model_hit {c r x k : Nat} (hk : k < 99) (hit : x * 100 ≤ budget c r / (100 - k)) (miss : ∀ i, i < k → ¬ x * 100 ≤ budget c r / (100 - i)) : leastN c r x = k := by
  by_cases hx : x = 0
  · subst hx
    by_cases h0 : k = 0
    · subst h0; exact leastN_zero c r
    · exact absurd (by omega) (miss 0 (by omega))
  have hx1 : 1 ≤ x := by omega
  rw [hit_iff hx1 (by omega)] at hit
  by_cases h0 : k = 0
  · subst h0; exact leastN_none (by omega)
  · have hm := miss (k - 1) (by omega)
    rw [hit_iff hx1 (by omega)] at hm
    rw [leastN_part hx1 (by omega) (by omega)]
    omega

/-- Where it does not. -/
theorem model_end {c r x : Nat} (miss : ∀ i, i < 99 → ¬ x * 100 ≤ budget c r / (100 - i)) : leastN c r x = 99 := by
  by_cases hx : x = 0
  · subst hx; exact absurd (by omega) (miss 0 (by omega))
  have hx1 : 1 ≤ x := by omega
  have hm := miss 98 (by omega)
  rw [hit_iff hx1 (by omega)] at hm
  by_cases h0 : through c r x = 0
  · exact leastN_all hx1 h0
  · rw [leastN_part hx1 (by omega) (by omega)]
    omega

/-- The reduction behind a period of x, r in force, 'ch': it changed at the period's start. -/
def nextN (c r : Nat) (ch : Bool) (x : Nat) : Nat :=
  if ch then r else if c * 98 < x * 100 then leastN c r x else if x * 100 < c * 90 ∧ leastN c r x < r then r - (r - leastN c r x + 1) / 2 else r

theorem nextN_le {c r : Nat} (ch : Bool) (x : Nat) (h : r ≤ 99) : nextN c r ch x ≤ 99 := by
  unfold nextN
  have := leastN_le c r x
  split
  · exact h
  · split
    · exact this
    · split <;> omega

theorem half_way {r l : Nat} (h : l < r) : r - (r - l + 1) / 2 = (r + l) / 2 := by omega

end Go.Proofs.Qxb6617810a
