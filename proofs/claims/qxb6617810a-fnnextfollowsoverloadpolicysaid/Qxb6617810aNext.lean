/-
  THE WALKS OF 'ZZNewController' (6) AND '(*Controller).Next' (10).
-/
import Derived.Test.Qxb6617810aLeast
namespace Go.Proofs.Qxb6617810a
open Go.ChangeShapes Go.WideShapes Go.ChangeAt Go.RowKit

/-- Block b is a Controller of capacity c, the reduction r in force, 'ch': it has just changed; all below b is as in w. -/
structure CtlAt (b c r : Nat) (ch : Bool) (w wr : World) : Prop where
  cap : wr.cell? ⟨b, 0, none⟩ = some (.int .u64 c)
  red : wr.cell? ⟨b, 1, none⟩ = some (.int .u32 r)
  chg : wr.cell? ⟨b, 2, none⟩ = some (.bool ch)
  soft1 : wr.frozen? ⟨b, 1, none⟩ = false
  soft2 : wr.frozen? ⟨b, 2, none⟩ = false
  below : Below b w wr

theorem CtlAt.drewN {b c r : Nat} {ch : Bool} {w wr : World} (h : CtlAt b c r ch w wr) (n : Nat) : CtlAt b c r ch w (wr.drewN n) :=
  ⟨h.cap, h.red, h.chg, h.soft1, h.soft2, below_drewN h.below n⟩

theorem CtlAt.setChg {b c r : Nat} {ch : Bool} {w wr : World} (h : CtlAt b c r ch w wr) (v : Bool) : CtlAt b c r v w (wr.setCell ⟨b, 2, none⟩ (.bool v)) where
  cap := by rw [World.cell?_setCell_other _ _ _ _ (by intro e; injection e with _ e2; omega)]; exact h.cap
  red := by rw [World.cell?_setCell_other _ _ _ _ (by intro e; injection e with _ e2; omega)]; exact h.red
  chg := World.cell?_setCell_same _ _ _ h.chg
  soft1 := by rw [World.frozen?_setCell]; exact h.soft1
  soft2 := by rw [World.frozen?_setCell]; exact h.soft2
  below := h.below.setCell (Nat.le_refl _) _

theorem CtlAt.setRed {b c r : Nat} {ch : Bool} {w wr : World} (h : CtlAt b c r ch w wr) (v : Nat) : CtlAt b c v ch w (wr.setCell ⟨b, 1, none⟩ (.int .u32 v)) where
  cap := by rw [World.cell?_setCell_other _ _ _ _ (by intro e; injection e with _ e2; omega)]; exact h.cap
  red := World.cell?_setCell_same _ _ _ h.red
  chg := by rw [World.cell?_setCell_other _ _ _ _ (by intro e; injection e with _ e2; omega)]; exact h.chg
  soft1 := by rw [World.frozen?_setCell]; exact h.soft1
  soft2 := by rw [World.frozen?_setCell]; exact h.soft2
  below := h.below.setCell (Nat.le_refl _) _

theorem newctl_any (c r : Int) (ch : Bool) (w : World) :
    Calls Try.prog 6 #[.int .u64 c, .int .u32 r, .bool ch] w fun e w' => e = .returned (.pointer (some ⟨w.heap.size, 0, none⟩)) ∧ w' = w.alloc (.cells #[.int .u64 c, .int .u32 r, .bool ch] 36) := by
  go_enter Try.func6, Try.ntmps6
  go_wp2
  go_ret
  exact ⟨rfl, rfl⟩

theorem ctl_new (c r : Nat) (ch : Bool) (w : World) : CtlAt w.heap.size c r ch w (w.alloc (.cells #[.int .u64 c, .int .u32 r, .bool ch] 36)) :=
  ⟨by simp, by simp, by simp, by simp, by simp, (Below.refl _ _).alloc (Nat.le_refl _) _⟩

/-- What Next answers and leaves. -/
def Nexts (b c r : Nat) (ch : Bool) (x : Nat) (w0 : World) (e : Ending) (w' : World) : Prop :=
  e = .returned (.tuple #[.int .u32 (nextN c r ch x), .bool (decide (nextN c r ch x ≠ r))]) ∧ CtlAt b c (nextN c r ch x) (decide (nextN c r ch x ≠ r)) w0 w'

/-- It stays. -/
theorem Nexts.stay {b c r : Nat} {ch : Bool} {x : Nat} {w0 w' : World} (h : nextN c r ch x = r) (hd : CtlAt b c r false w0 w') : Nexts b c r ch x w0 (.returned (.tuple #[.int .u32 r, .bool false])) w' := by
  unfold Nexts
  rw [h, decide_eq_false (by simp)]
  exact ⟨rfl, hd⟩
/-- It turns. -/
theorem Nexts.turn {b c r : Nat} {ch : Bool} {x m : Nat} {w0 w' : World} (h : nextN c r ch x = m) (hm : m ≠ r) (hd : CtlAt b c m true w0 w') : Nexts b c r ch x w0 (.returned (.tuple #[.int .u32 m, .bool true])) w' := by
  unfold Nexts
  rw [h, decide_eq_true hm]
  exact ⟨rfl, hd⟩

theorem next_changed (c r x : Nat) : nextN c r true x = r := by simp [nextN]
theorem next_over {c r x : Nat} (h : c * 98 < x * 100) : nextN c r false x = leastN c r x := by simp [nextN, h]
theorem next_idle {c r x : Nat} (h : ¬ c * 98 < x * 100) (h1 : x * 100 < c * 90) (h2 : leastN c r x < r) : nextN c r false x = r - (r - leastN c r x + 1) / 2 := by simp [nextN, h, h1, h2]
theorem next_keep {c r x : Nat} (h : ¬ c * 98 < x * 100) (h1 : ¬ (x * 100 < c * 90 ∧ leastN c r x < r)) : nextN c r false x = r := by simp only [nextN, h, if_false, Bool.false_eq_true, h1]

set_option maxRecDepth 100000 in
set_option maxHeartbeats 1000000 in
theorem next_any (b c r x : Nat) (ch : Bool) (w0 w : World) (hc : c ≤ 1882320823847913) (hr : r ≤ 99) (hx : x ≤ 184467440737095516) (hd : CtlAt b c r ch w0 w) :
    Calls Try.prog 10 #[.pointer (some ⟨b, 0, none⟩), .int .u64 x] w (Nexts b c r ch x w0) := by
  have HD : Hid (CtlAt b c r ch w0 w) := hd
  have c0 := hd.cap
  have c1 := hd.red
  have c2 := hd.chg
  have f1 := hd.soft1
  have f2 := hd.soft2
  clear hd
  cases ch
  case true =>
    go_enter Try.func10, Try.ntmps10
    go_wp2
    go_ret2
    exact Nexts.stay (next_changed c r x) (HD.out.setChg false)
  case false =>
    have hle := leastN_le c r x
    go_enter Try.func10, Try.ntmps10
    go_wp2_with fail
    refine (least_any b c r x _ hc hr hx c0 c1).mono ?_
    rintro e w1 ⟨rfl, n, rfl⟩
    obtain ⟨l, hl⟩ : ∃ l, l = leastN c r x := ⟨_, rfl⟩
    rw [← hl] at hle ⊢
    have HL : Hid (l = leastN c r x) := hl
    clear hl
    by_cases hov : c * 98 < x * 100
    · have HO : Hid (nextN c r false x = l) := by show _ = _; rw [next_over hov, HL.out]
      by_cases hlr : l = r
      · subst hlr
        go_wp2_with fail
        go_ret2
        exact Nexts.stay HO.out (HD.out.drewN n)
      · have hne : ((l : Int) == (r : Int)) = false := by simp; omega
        have HNE : Hid (l ≠ r) := hlr
        clear hlr
        go_wp2_with fail
        go_ret2
        exact Nexts.turn HO.out HNE.out (((HD.out.drewN n).setRed l).setChg true)
    by_cases hid : x * 100 < c * 90 ∧ l < r
    · obtain ⟨hi1, hi2⟩ := hid
      obtain ⟨m, hm⟩ : ∃ m, m = r - (r - l + 1) / 2 := ⟨_, rfl⟩
      have HO : Hid (nextN c r false x = m) := by show _ = _; rw [next_idle hov hi1 (by rw [← HL.out]; exact hi2), ← HL.out, hm]
      have HNE : Hid (m ≠ r) := by show _ ≠ _; omega
      have hml : m < r := by omega
      have HM : Hid (m = r - (r - l + 1) / 2) := hm
      clear hm
      go_wp2_with fail
      go_quiet (fail)
      have hmi : (r : Int) - ((r : Int) - (l : Int) + 1) / 2 = (m : Int) := by have := HM.out; omega
      rw [hmi]
      clear hmi
      have hne : ((m : Int) == (r : Int)) = false := by simp; omega
      go_wp2
      go_ret2
      exact Nexts.turn HO.out HNE.out (((HD.out.drewN _).setRed m).setChg true)
    · have HO : Hid (nextN c r false x = r) := by show _ = _; rw [next_keep hov (by rw [← HL.out]; exact hid)]
      by_cases hi1 : x * 100 < c * 90
      · have hi2 : r ≤ l := by omega
        clear hid
        go_wp2_with fail
        go_ret2
        exact Nexts.stay HO.out (HD.out.drewN n)
      · clear hid
        go_wp2_with fail
        go_ret2
        exact Nexts.stay HO.out (HD.out.drewN n)
end Go.Proofs.Qxb6617810a
