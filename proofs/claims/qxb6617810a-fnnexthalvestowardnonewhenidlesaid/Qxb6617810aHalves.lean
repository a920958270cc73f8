/-
  THE WALK OF 'FnNextHalvesTowardNoneWhenIdle' (5).
-/
import Derived.Test.Qxb6617810aShift
namespace Go.Proofs.Qxb6617810a
open Go.ChangeShapes Go.WideShapes Go.ChangeAt Go.RowKit

set_option maxRecDepth 100000 in
set_option maxHeartbeats 1000000 in
theorem walk5_false (c r x n : Nat) (w : World) (hc : c ≤ 1882320823847913) (hr : r ≤ 99) (hx : x ≤ 184467440737095516) (hi : Idle c x) (hn : n ≤ 65536) :
    Calls Try.prog 5 #[.int .u64 c, .int .u32 r, .bool false, .int .u64 x, .int .i64 n] w fun e w' => e = .returned (.bool true) ∧ Below w.heap.size w w' := by
  have h1 := hi.pos
  have h2 := hi.low
  have hc0 : ((c : Int) == 0) = false := by simp; omega
  have HI : Hid (Idle c x) := hi
  clear hi
  go_enter Try.func5, Try.ntmps5
  go_wp2_with fail
  refine (newctl_any (c : Int) (r : Int) false _).mono ?_
  rintro e v1 ⟨rfl, hv1⟩
  have HD : Hid (CtlAt w.heap.size c r false w v1) := by rw [hv1]; exact ctl_new c r false w
  clear hv1
  go_wp2_with fail
  go_loopg [13] n (fun g v wr => ∃ i : Nat, Hid (g = n - i) ∧ i ≤ n ∧ v = .int .i64 i ∧ Hid (CtlAt w.heap.size c (redAt r i) (chAt r i) w wr))
  case atStart => exact ⟨0, by simp [Hid], Nat.zero_le _, rfl, by rw [redAt_zero]; exact HD⟩
  case round =>
    obtain ⟨j, hg, hj, rfl, hdec⟩ := hrel
    clear HD
    by_cases hlt : j < n
    · obtain ⟨m0, hm0⟩ : ∃ m, m = redAt r j := ⟨_, rfl⟩
      obtain ⟨q0, hq0⟩ : ∃ q, q = chAt r j := ⟨_, rfl⟩
      obtain ⟨m, hm⟩ : ∃ m, m = redAt r (j + 1) := ⟨_, rfl⟩
      obtain ⟨q, hq⟩ : ∃ q, q = chAt r (j + 1) := ⟨_, rfl⟩
      have hm99 : m0 ≤ 99 := by rw [hm0]; exact redAt_le j hr
      have HN : Hid (nextN c m0 q0 x = m) := by rw [hm0, hq0, hm]; exact step_red j HI.out hr
      have HQ : Hid (decide (m ≠ m0) = q) := by rw [hm0, hm, hq]; exact step_ch r j
      rw [← hm0, ← hq0] at hdec
      have HM : Hid (m = redAt r (j + 1) ∧ q = chAt r (j + 1)) := ⟨hm, hq⟩
      rcases Nat.mod_two_eq_zero_or_one j with hpar | hpar
      · obtain ⟨k, hk⟩ : ∃ k, j = 2 * k := ⟨j / 2, by omega⟩
        have hs1 : ∀ yk, Op.shift .shr .u32 (r : Int) yk ((k : Int) + 1) = pure (.int .u32 (m : Int)) := by
          intro yk
          have := shr_u32 r (k + 1) hr yk
          rw [← redAt_odd (j := j + 1) (k := k) (by omega), ← hm] at this
          exact this
        have hs0 : ∀ yk, Op.shift .shr .u32 (r : Int) yk (k : Int) = pure (.int .u32 (m0 : Int)) := by
          intro yk
          have := shr_u32 r k hr yk
          rw [← redAt_even (j := j) hk, ← hm0] at this
          exact this
        have hne : ((m : Int) != (m0 : Int)) = q := by
          rw [← HQ.out]
          by_cases e : m = m0
          · subst e; simp
          · rw [decide_eq_true e]; simp; omega
        have hrem : ((j : Int) % 2 == 0) = true := by simp; omega
        have hdiv : (j : Int) / 2 = (k : Int) := by omega
        clear hm0 hq0 hm hq hpar hk
        go_wp2_with fail
        refine (next_any w.heap.size c m0 x q0 w _ hc hm99 hx hdec.out).mono ?_
        rintro e v2 ⟨he, hd2⟩
        rw [HN.out, HQ.out] at he hd2
        subst he
        have HD2 : Hid (CtlAt w.heap.size c m q w v2) := hd2
        clear hd2 hdec
        go_wp2_with fail
        go_roundg (n - (j + 1))
        case measure => have := hg.out; omega
        case rel => exact ⟨j + 1, rfl, by omega, by go_num, by rw [← HM.out.1, ← HM.out.2]; exact HD2⟩
      · obtain ⟨k, hk⟩ : ∃ k, j + 1 = 2 * k := ⟨(j + 1) / 2, by omega⟩
        have hs1 : ∀ yk, Op.shift .shr .u32 (r : Int) yk (k : Int) = pure (.int .u32 (m : Int)) := by
          intro yk
          have := shr_u32 r k hr yk
          rw [← redAt_even (j := j + 1) hk, ← hm] at this
          exact this
        obtain rfl : q = false := by rw [hq]; exact chAt_even hk
        have hrem : ((j : Int) % 2 == 0) = false := by simp; omega
        have hdiv : ((j : Int) + 1) / 2 = (k : Int) := by omega
        clear hm0 hq0 hm hq hpar hk
        go_wp2_with fail
        refine (next_any w.heap.size c m0 x q0 w _ hc hm99 hx hdec.out).mono ?_
        rintro e v2 ⟨he, hd2⟩
        rw [HN.out, HQ.out] at he hd2
        subst he
        have HD2 : Hid (CtlAt w.heap.size c m false w v2) := hd2
        clear hd2 hdec
        go_wp2_with fail
        go_roundg (n - (j + 1))
        case measure => have := hg.out; omega
        case rel => exact ⟨j + 1, rfl, by omega, by go_num, by rw [← HM.out.1, ← HM.out.2]; exact HD2⟩
    · go_wp2_with fail
      go_ret
      exact ⟨rfl, hdec.out.below⟩
/-- The same, where the first period is not judged. -/
def redS (r : Nat) : Nat → Nat
  | 0 => r
  | j + 1 => redAt r j
def chS (r : Nat) : Nat → Bool
  | 0 => true
  | j + 1 => chAt r j

set_option maxRecDepth 100000 in
set_option maxHeartbeats 1000000 in
theorem walk5_true (c r x n : Nat) (w : World) (hc : c ≤ 1882320823847913) (hr : r ≤ 99) (hx : x ≤ 184467440737095516) (hi : Idle c x) (hn : n ≤ 65536) :
    Calls Try.prog 5 #[.int .u64 c, .int .u32 r, .bool true, .int .u64 x, .int .i64 n] w fun e w' => e = .returned (.bool true) ∧ Below w.heap.size w w' := by
  have h1 := hi.pos
  have h2 := hi.low
  have hc0 : ((c : Int) == 0) = false := by simp; omega
  have HI : Hid (Idle c x) := hi
  clear hi
  go_enter Try.func5, Try.ntmps5
  go_wp2_with fail
  refine (newctl_any (c : Int) (r : Int) true _).mono ?_
  rintro e v1 ⟨rfl, hv1⟩
  have HD : Hid (CtlAt w.heap.size c r true w v1) := by rw [hv1]; exact ctl_new c r true w
  clear hv1
  go_wp2_with fail
  go_loopg [13] n (fun g v wr => ∃ i : Nat, Hid (g = n - i) ∧ i ≤ n ∧ v = .int .i64 i ∧ Hid (CtlAt w.heap.size c (redS r i) (chS r i) w wr))
  case atStart => exact ⟨0, by simp [Hid], Nat.zero_le _, rfl, HD⟩
  case round =>
    obtain ⟨i, hg, hj, rfl, hdec⟩ := hrel
    clear HD
    by_cases hlt : i < n
    · match i, hg, hj, hdec, hlt with
      | 0, hg, hj, hdec, hlt =>
        have hdec0 : Hid (CtlAt w.heap.size c r true w wr) := hdec
        clear hdec
        go_wp2_with fail
        refine (next_any w.heap.size c r x true w _ hc hr hx hdec0.out).mono ?_
        rintro e v2 ⟨he, hd2⟩
        rw [next_changed, decide_eq_false (by simp)] at he hd2
        subst he
        have HD2 : Hid (CtlAt w.heap.size c r false w v2) := hd2
        clear hd2 hdec0
        go_wp2_with fail
        go_roundg (n - 1)
        case measure => have := hg.out; omega
        case rel => exact ⟨1, rfl, by omega, rfl, by show CtlAt w.heap.size c (redAt r 0) (chAt r 0) w v2; rw [redAt_zero]; exact HD2⟩
      | j + 1, hg, hj, hdec1, hlt =>
        have hdec : Hid (CtlAt w.heap.size c (redAt r j) (chAt r j) w wr) := hdec1
        clear hdec1
        obtain ⟨m0, hm0⟩ : ∃ m, m = redAt r j := ⟨_, rfl⟩
        obtain ⟨q0, hq0⟩ : ∃ q, q = chAt r j := ⟨_, rfl⟩
        obtain ⟨m, hm⟩ : ∃ m, m = redAt r (j + 1) := ⟨_, rfl⟩
        obtain ⟨q, hq⟩ : ∃ q, q = chAt r (j + 1) := ⟨_, rfl⟩
        have hm99 : m0 ≤ 99 := by rw [hm0]; exact redAt_le j hr
        have HN : Hid (nextN c m0 q0 x = m) := by rw [hm0, hq0, hm]; exact step_red j HI.out hr
        have HQ : Hid (decide (m ≠ m0) = q) := by rw [hm0, hm, hq]; exact step_ch r j
        rw [← hm0, ← hq0] at hdec
        have HM : Hid (m = redAt r (j + 1) ∧ q = chAt r (j + 1)) := ⟨hm, hq⟩
        rcases Nat.mod_two_eq_zero_or_one j with hpar | hpar
        · obtain ⟨k, hk⟩ : ∃ k, j = 2 * k := ⟨j / 2, by omega⟩
          have hs1 : ∀ yk, Op.shift .shr .u32 (r : Int) yk ((k : Int) + 1) = pure (.int .u32 (m : Int)) := by
            intro yk
            have := shr_u32 r (k + 1) hr yk
            rw [← redAt_odd (j := j + 1) (k := k) (by omega), ← hm] at this
            exact this
          have hs0 : ∀ yk, Op.shift .shr .u32 (r : Int) yk (k : Int) = pure (.int .u32 (m0 : Int)) := by
            intro yk
            have := shr_u32 r k hr yk
            rw [← redAt_even (j := j) hk, ← hm0] at this
            exact this
          have hne : ((m : Int) != (m0 : Int)) = q := by
            rw [← HQ.out]
            by_cases e : m = m0
            · subst e; simp
            · rw [decide_eq_true e]; simp; omega
          have hrem : ((j : Int) % 2 == 0) = true := by simp; omega
          have hdiv : (j : Int) / 2 = (k : Int) := by omega
          clear hm0 hq0 hm hq hpar hk
          go_wp2_with fail
          refine (next_any w.heap.size c m0 x q0 w _ hc hm99 hx hdec.out).mono ?_
          rintro e v2 ⟨he, hd2⟩
          rw [HN.out, HQ.out] at he hd2
          subst he
          have HD2 : Hid (CtlAt w.heap.size c m q w v2) := hd2
          clear hd2 hdec
          go_wp2_with fail
          go_roundg (n - (j + 1 + 1))
          case measure => have := hg.out; omega
          case rel => exact ⟨j + 1 + 1, rfl, by omega, by go_num, by show CtlAt w.heap.size c (redAt r (j + 1)) (chAt r (j + 1)) w v2; rw [← HM.out.1, ← HM.out.2]; exact HD2⟩
        · obtain ⟨k, hk⟩ : ∃ k, j + 1 = 2 * k := ⟨(j + 1) / 2, by omega⟩
          have hs1 : ∀ yk, Op.shift .shr .u32 (r : Int) yk (k : Int) = pure (.int .u32 (m : Int)) := by
            intro yk
            have := shr_u32 r k hr yk
            rw [← redAt_even (j := j + 1) hk, ← hm] at this
            exact this
          obtain rfl : q = false := by rw [hq]; exact chAt_even hk
          have hrem : ((j : Int) % 2 == 0) = false := by simp; omega
          have hdiv : ((j : Int) + 1) / 2 = (k : Int) := by omega
          clear hm0 hq0 hm hq hpar hk
          go_wp2_with fail
          refine (next_any w.heap.size c m0 x q0 w _ hc hm99 hx hdec.out).mono ?_
          rintro e v2 ⟨he, hd2⟩
          rw [HN.out, HQ.out] at he hd2
          subst he
          have HD2 : Hid (CtlAt w.heap.size c m false w v2) := hd2
          clear hd2 hdec
          go_wp2_with fail
          go_roundg (n - (j + 1 + 1))
          case measure => have := hg.out; omega
          case rel => exact ⟨j + 1 + 1, rfl, by omega, by go_num, by show CtlAt w.heap.size c (redAt r (j + 1)) (chAt r (j + 1)) w v2; rw [← HM.out.1, ← HM.out.2]; exact HD2⟩
    · go_wp2_with fail
      go_ret
      exact ⟨rfl, hdec.out.below⟩
end Go.Proofs.Qxb6617810a
