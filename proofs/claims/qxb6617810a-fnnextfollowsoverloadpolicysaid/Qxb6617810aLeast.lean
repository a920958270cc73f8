/-
  THE WALKS OF '(*Controller).least' (11), 'ZZLeast' (7), 'zzModelLeast' (8).
-/
import Derived.Test.Qxb6617810aRows
import Derived.Test.Qxb6617810aPlain
import Derived.WalkKit
import Derived.ProofKit
import Derived.Below
import Derived.WalkSmall
import Derived.WalkSpells
import Derived.WalkLawsBesides
import Derived.Deep.QuietTactic
import Derived.Deep.LoopGhost
import Derived.BigQuiet
namespace Go.Proofs.Qxb6617810a
open Go.ChangeShapes Go.WideShapes Go.ChangeAt Go.RowKit

theorem ret_u32 {a b : Int} (h : a = b) : Ending.returned (.int .u32 a) = .returned (.int .u32 b) := by rw [h]

/-- The budget as the walk writes it. -/
theorem wrap_budget {c r : Nat} (hc : c ≤ 1882320823847913) (hr : r ≤ 99) : IntKind.u64.wrap ((c : Int) * 98 * (100 - (r : Int))) = (budget c r : Int) := by
  have hb := budget_le r hc
  have e : (c : Int) * 98 * (100 - (r : Int)) = (budget c r : Int) := by
    unfold budget
    rw [Int.natCast_mul, Int.natCast_mul, Int.natCast_sub (by omega)]
    rfl
  rw [e, IntWalk.u64_in _ (by omega)]

theorem wrap_through {c r x : Nat} (hc : c ≤ 1882320823847913) : IntKind.u64.wrap (((budget c r : Nat) : Int) / ((x : Int) * 100)) = (through c r x : Int) := by
  have hb := budget_le r hc
  have ht : through c r x ≤ budget c r := Nat.div_le_self _ _
  have e : ((budget c r : Nat) : Int) / ((x : Int) * 100) = (through c r x : Int) := by
    unfold through
    rw [Int.natCast_ediv, Int.natCast_mul]
    rfl
  rw [e, IntWalk.u64_in _ (by omega)]

theorem wrap_quot {c r k : Nat} (hc : c ≤ 1882320823847913) (hk : k < 100) : IntKind.u64.wrap (((budget c r : Nat) : Int) / (100 - (k : Int))) = ((budget c r / (100 - k) : Nat) : Int) := by
  have hb := budget_le r hc
  have ht : budget c r / (100 - k) ≤ budget c r := Nat.div_le_self _ _
  have e : ((budget c r : Nat) : Int) / (100 - (k : Int)) = ((budget c r / (100 - k) : Nat) : Int) := by
    rw [Int.natCast_ediv, Int.natCast_sub (by omega)]
    rfl
  rw [e]
  generalize budget c r / (100 - k) = q at ht
  exact IntWalk.u64_in _ (by omega)

set_option maxHeartbeats 1000000 in
theorem least_any (b c r x : Nat) (w : World) (hc : c ≤ 1882320823847913) (hr : r ≤ 99) (hx : x ≤ 184467440737095516)
    (h0 : w.cell? ⟨b, 0, none⟩ = some (.int .u64 c)) (h1 : w.cell? ⟨b, 1, none⟩ = some (.int .u32 r)) :
    Calls Try.prog 11 #[.pointer (some ⟨b, 0, none⟩), .int .u64 x] w fun e w' => e = .returned (.int .u32 (leastN c r x)) ∧ ∃ n, w' = w.drewN n := by
  by_cases hx0 : x = 0
  · subst hx0
    rw [leastN_zero]
    go_enter Try.func11, Try.ntmps11
    go_wp2
    go_ret
    exact ⟨rfl, 0, rfl⟩
  have hx0' : ((x : Int) == 0) = false := by simp; omega
  have hx1 : 1 ≤ x := by omega
  have hB := wrap_budget hc hr
  have hT := wrap_through (r := r) (x := x) hc
  obtain ⟨l, hl⟩ : ∃ l, l = leastN c r x := ⟨_, rfl⟩
  rw [← hl]
  have HL : Hid (l = leastN c r x) := hl
  clear hl
  obtain ⟨t, ht⟩ : ∃ t, t = through c r x := ⟨_, rfl⟩
  rw [← ht] at hT
  have HT : Hid (t = through c r x) := ht
  clear ht
  obtain ⟨B, hb⟩ : ∃ B, B = budget c r := ⟨_, rfl⟩
  rw [← hb] at hB hT
  clear hb
  clear hx0
  by_cases h100 : 100 ≤ t
  · go_enter Try.func11, Try.ntmps11
    go_wp2
    go_quiet (fail)
    go_wp2
    go_ret
    exact ⟨ret_u32 (by rw [HL.out, leastN_none (by rw [← HT.out]; exact h100)]; rfl), _, rfl⟩
  by_cases ht0 : t = 0
  · have HZ : Hid (through c r x = 0) := by have := HT.out; show _ = _; omega
    subst ht0
    go_enter Try.func11, Try.ntmps11
    go_wp2
    go_quiet (fail)
    go_wp2
    go_ret
    exact ⟨ret_u32 (by rw [HL.out, leastN_all hx1 HZ.out]; rfl), _, rfl⟩
  · have ht1 : 1 ≤ t := by omega
    have hlt : t < 100 := by omega
    clear h100 ht0
    have HP : Hid (leastN c r x = 100 - t) := by have := HT.out; show _ = _; rw [leastN_part hx1 (by omega) (by omega)]; omega
    go_enter Try.func11, Try.ntmps11
    go_wp2
    go_quiet (fail)
    go_wp2
    go_ret
    exact ⟨ret_u32 (by rw [HL.out, HP.out]; omega), _, rfl⟩

theorem zzleast_any (b c r x : Nat) (w : World) (hc : c ≤ 1882320823847913) (hr : r ≤ 99) (hx : x ≤ 184467440737095516)
    (h0 : w.cell? ⟨b, 0, none⟩ = some (.int .u64 c)) (h1 : w.cell? ⟨b, 1, none⟩ = some (.int .u32 r)) :
    Calls Try.prog 7 #[.pointer (some ⟨b, 0, none⟩), .int .u64 x] w fun e w' => e = .returned (.int .u32 (leastN c r x)) ∧ ∃ n, w' = w.drewN n := by
  go_enter Try.func7, Try.ntmps7
  go_wp2_with fail
  refine (least_any b c r x _ hc hr hx h0 h1).mono ?_
  rintro e w' ⟨rfl, n, rfl⟩
  go_wp2_with fail
  go_ret
  exact ⟨rfl, n, rfl⟩

set_option maxHeartbeats 1000000 in
theorem model_any (c r x : Nat) (w : World) (hc : c ≤ 1882320823847913) (hr : r ≤ 99) (hx : x ≤ 184467440737095516) :
    Calls Try.prog 8 #[.int .u64 c, .int .u32 r, .int .u64 x] w fun e w' => e = .returned (.int .u32 (leastN c r x)) ∧ w' = w := by
  obtain ⟨l, hl⟩ : ∃ l, l = leastN c r x := ⟨_, rfl⟩
  rw [← hl]
  have HL : Hid (l = leastN c r x) := hl
  clear hl
  have hB := wrap_budget hc hr
  have hBl := budget_le r hc
  obtain ⟨B, hb⟩ : ∃ B, B = budget c r := ⟨_, rfl⟩
  rw [← hb] at hB hBl
  have HB : Hid (B = budget c r) := hb
  clear hb
  go_enter Try.func8, Try.ntmps8
  go_wp2
  go_loop [8] (fun i => ∃ k : Nat, k ≤ 99 ∧ i = .int .u32 k ∧ Hid (∀ i, i < k → ¬ x * 100 ≤ budget c r / (100 - i))) (fun i => 99 - (intOf i).toNat)
  case atStart => exact ⟨0, by omega, rfl, fun i hi => by omega⟩
  case round =>
    obtain ⟨k, hk, rfl, hmiss⟩ := hrel
    by_cases hlt : k < 99
    · have hQ := wrap_quot (r := r) hc (show k < 100 by omega)
      obtain ⟨q, hq⟩ : ∃ q, q = budget c r / (100 - k) := ⟨_, rfl⟩
      rw [← hq, ← HB.out] at hQ
      have HQ : Hid (q = budget c r / (100 - k)) := hq
      clear hq
      by_cases hit : x * 100 ≤ q
      · go_wp2
        go_ret
        exact ⟨ret_u32 (by rw [HL.out, model_hit hlt (by rw [← HQ.out]; exact hit) hmiss.out]), rfl⟩
      · go_wp2
        go_round
        case rel =>
          refine ⟨k + 1, by omega, by go_num, fun i hi => ?_⟩
          by_cases e : i = k
          · subst e; rw [← HQ.out]; omega
          · exact hmiss.out i (by omega)
        case measure => simp [intOf]; omega
    · obtain rfl : k = 99 := by omega
      go_wp2
      go_ret
      exact ⟨ret_u32 (by rw [HL.out, model_end hmiss.out]; rfl), rfl⟩
end Go.Proofs.Qxb6617810a
