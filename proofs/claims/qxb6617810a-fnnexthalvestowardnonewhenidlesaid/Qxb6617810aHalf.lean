/-
  THE PLAIN LAW of halving: no Go in sight.
-/
import Derived.Test.Qxb6617810aPlain
namespace Go.Proofs.Qxb6617810a

/-- A load too small to need any reduction. -/
structure Idle (c x : Nat) : Prop where
  pos : 1 ≤ c
  low : x * 10000 ≤ c * 98

theorem idle_least {c r x : Nat} (h : Idle c x) (hr : r ≤ 99) : leastN c r x = 0 := by
  by_cases hx : x = 0
  · subst hx; exact leastN_zero c r
  · apply leastN_none
    unfold through
    rw [Nat.le_div_iff_mul_le (by omega)]
    unfold budget
    have h1 : c * 98 * 1 ≤ c * 98 * (100 - r) := Nat.mul_le_mul_left _ (by omega)
    have := h.low
    omega

/-- Judged, the reduction is halved. -/
theorem idle_next {c r x : Nat} (h : Idle c x) (hr : r ≤ 99) : nextN c r false x = r / 2 := by
  have h1 := h.pos
  have h2 := h.low
  unfold nextN
  rw [idle_least h hr, if_neg (by simp), if_neg (by omega)]
  by_cases h0 : 0 < r
  · rw [if_pos ⟨by omega, h0⟩]; omega
  · rw [if_neg (by omega)]; omega

/-- The reduction in force, and whether it has just changed, j periods behind the first that is judged. -/
def redAt (r j : Nat) : Nat := r / 2 ^ ((j + 1) / 2)
def chAt (r j : Nat) : Bool := decide (j % 2 = 1) && decide (redAt r j ≠ r / 2 ^ (j / 2))

theorem half_pow (r k : Nat) : r / 2 ^ (k + 1) = r / 2 ^ k / 2 := by rw [Nat.div_div_eq_div_mul, Nat.pow_succ]

theorem redAt_zero (r : Nat) : redAt r 0 = r := by simp [redAt]
theorem chAt_zero (r : Nat) : chAt r 0 = false := rfl
theorem redAt_le {r : Nat} (j : Nat) (h : r ≤ 99) : redAt r j ≤ 99 := Nat.le_trans (Nat.div_le_self _ _) h

theorem redAt_even {r j k : Nat} (h : j = 2 * k) : redAt r j = r / 2 ^ k := by unfold redAt; rw [show (j + 1) / 2 = k by omega]
theorem redAt_odd {r j k : Nat} (h : j = 2 * k + 1) : redAt r j = r / 2 ^ (k + 1) := by unfold redAt; rw [show (j + 1) / 2 = k + 1 by omega]
theorem chAt_even {r j k : Nat} (h : j = 2 * k) : chAt r j = false := by unfold chAt; rw [decide_eq_false (by omega)]; rfl
theorem chAt_odd {r j k : Nat} (h : j = 2 * k + 1) : chAt r j = decide (r / 2 ^ (k + 1) ≠ r / 2 ^ k) := by
  unfold chAt
  rw [decide_eq_true (show j % 2 = 1 by omega), redAt_odd h, show j / 2 = k by omega, Bool.true_and]

theorem step_red {c r x : Nat} (j : Nat) (h : Idle c x) (hr : r ≤ 99) : nextN c (redAt r j) (chAt r j) x = redAt r (j + 1) := by
  rcases Nat.mod_two_eq_zero_or_one j with hj | hj
  · obtain ⟨k, hk⟩ : ∃ k, j = 2 * k := ⟨j / 2, by omega⟩
    rw [chAt_even hk, idle_next h (redAt_le j hr), redAt_even hk, redAt_odd (k := k) (by omega), half_pow]
  · obtain ⟨k, hk⟩ : ∃ k, j = 2 * k + 1 := ⟨j / 2, by omega⟩
    rw [chAt_odd hk, redAt_even (j := j + 1) (k := k + 1) (by omega)]
    by_cases e : r / 2 ^ (k + 1) = r / 2 ^ k
    · rw [decide_eq_false (by simpa using e), idle_next h (redAt_le j hr), redAt_odd hk]
      rw [half_pow] at e ⊢
      omega
    · rw [decide_eq_true e, redAt_odd hk]
      simp [nextN]

theorem step_ch (r j : Nat) : decide (redAt r (j + 1) ≠ redAt r j) = chAt r (j + 1) := by
  rcases Nat.mod_two_eq_zero_or_one j with hj | hj
  · obtain ⟨k, hk⟩ : ∃ k, j = 2 * k := ⟨j / 2, by omega⟩
    rw [chAt_odd (j := j + 1) (k := k) (by omega), redAt_odd (j := j + 1) (k := k) (by omega), redAt_even hk]
  · obtain ⟨k, hk⟩ : ∃ k, j = 2 * k + 1 := ⟨j / 2, by omega⟩
    rw [chAt_even (j := j + 1) (k := k + 1) (by omega), redAt_even (j := j + 1) (k := k + 1) (by omega), redAt_odd hk]
    simp

end Go.Proofs.Qxb6617810a
