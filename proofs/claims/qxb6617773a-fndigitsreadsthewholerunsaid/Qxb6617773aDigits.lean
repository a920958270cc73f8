/-
  THE WALKS OF '(*decoder).digits' (17), 'ZZDigits' (12) AND 'zzDigit' (13).
-/
import Derived.Test.Qxb6617773aPeek
namespace Go.Proofs.Qxb6617773a
open Go.ChangeShapes Go.WideShapes Go.ChangeAt Go.RowKit

theorem digit_yes (c : UInt8) (h1 : (48 : Int) ≤ (c.toNat : Int)) (h2 : (c.toNat : Int) ≤ 57) : digitB c = true := by
  unfold digitB
  simp [UInt8.le_iff_toNat_le]
  omega
theorem digit_low (c : UInt8) (h : ¬ (48 : Int) ≤ (c.toNat : Int)) : digitB c = false := by
  unfold digitB
  rw [Bool.and_eq_false_iff]
  left
  simp [UInt8.lt_iff_toNat_lt]
  omega
theorem digit_high (c : UInt8) (h : ¬ (c.toNat : Int) ≤ 57) : digitB c = false := by
  unfold digitB
  rw [Bool.and_eq_false_iff]
  right
  simp [UInt8.lt_iff_toNat_lt]
  omega

theorem ret_bool {a b : Bool} (h : a = b) : Ending.returned (.bool a) = .returned (.bool b) := by rw [h]

set_option maxRecDepth 100000 in
set_option maxHeartbeats 1000000 in
theorem digits_any (s : ByteArray) (b pos : Nat) (w : World) (hs : s.size ≤ maxLen) (hp : pos ≤ s.size) (hd : DecAt b s w pos w) :
    Calls Try.prog 17 #[.pointer (some ⟨b, 0, none⟩)] w fun e w' => ∃ p : Nat, IsStop digitB s pos p ∧ e = .returned (.bool (decide (pos < p))) ∧ DecAt b s w p w' := by
  unfold maxLen at hs
  have c1 := hd.pos
  go_enter Try.func17, Try.ntmps17
  go_wp2
  go_loopg [] (s.size - pos) (fun k wr => ∃ q : Nat, Hid (k = s.size - q) ∧ pos ≤ q ∧ q ≤ s.size ∧ Hid (RunTo digitB s pos q) ∧ Hid (DecAt b s w q wr))
  case atStart => exact ⟨pos, rfl, Nat.le_refl _, hp, fun i a c => by omega, hd⟩
  case round =>
    obtain ⟨q, hk, hq1, hq2, hrun, hdec⟩ := hrel
    clear hd c1
    have c0 := hdec.out.text
    have c1 := hdec.out.pos
    have cf := hdec.out.soft
    by_cases hlt : q < s.size
    · have hlt' : (q : Int) < (s.size : Int) := by omega
      by_cases hlo : (48 : Int) ≤ (s[q].toNat : Int)
      · by_cases hhi : (s[q].toNat : Int) ≤ 57
        · go_wp2
          go_quiet (fail)
          go_wp2
          go_roundg (s.size - (q + 1))
          case measure => have := hk.out; omega
          case rel => exact ⟨q + 1, rfl, by omega, by omega, hrun.out.step hlt (digit_yes _ hlo hhi), hdec.out.step _⟩
        · have hhi' : decide ((s[q].toNat : Int) ≤ 57) = false := decide_eq_false hhi
          go_wp2
          go_quiet (fail)
          go_wp2
          go_ret
          exact ⟨q, hrun.out.stop hq1 hlt (digit_high _ (by omega)), ret_bool (by simp), hdec.out.drewN _⟩
      · have hlo' : decide ((48 : Int) ≤ (s[q].toNat : Int)) = false := decide_eq_false hlo
        go_wp2
        go_quiet (fail)
        go_wp2
        go_ret
        exact ⟨q, hrun.out.stop hq1 hlt (digit_low _ (by omega)), ret_bool (by simp), hdec.out.drewN _⟩
    · have hlt' : decide ((q : Int) < (s.size : Int)) = false := decide_eq_false (by omega)
      go_wp2
      go_quiet (fail)
      go_wp2
      go_ret
      exact ⟨q, hrun.out.done hq1 hq2 hlt, ret_bool (by simp), hdec.out.drewN _⟩

set_option maxHeartbeats 1000000 in
theorem zzdigits_any (s : ByteArray) (pos : Nat) (dep : Int) (ka : Option Addr) (kl kc : Nat) (w : World) (hs : s.size ≤ maxLen) (hp : pos ≤ s.size) :
    Calls Try.prog 12 #[.string s, .int .i64 pos, .int .i64 dep, .slice ka kl kc] w fun e w' => ∃ p : Nat, IsStop digitB s pos p ∧ e = .returned (.tuple #[.bool (decide (pos < p)), .string s, .int .i64 p, .int .i64 dep, .slice ka kl kc]) ∧ Below w.heap.size w w' := by
  go_enter Try.func12, Try.ntmps12
  go_wp2_with fail
  refine (digits_any s w.heap.size pos _ hs hp (dec_new s pos dep _ _ w)).mono ?_
  rintro e w1 ⟨p, hstop, rfl, hdec⟩
  have c0 := hdec.text
  have c1 := hdec.pos
  have c2 := hdec.rest 2 (by omega)
  have c3 := hdec.rest 3 (by omega)
  have hb := hdec.below
  simp at c2 c3
  have H : Hid (IsStop digitB s pos p) := hstop
  have HB : Hid (Below w.heap.size w w1) := ((Below.refl _ _).alloc (Nat.le_refl _) _).trans hb
  clear hdec hb hstop
  obtain ⟨r, hr⟩ : ∃ r, r = decide (pos < p) := ⟨_, rfl⟩
  rw [← hr]
  have HR : Hid (r = decide (pos < p)) := hr
  clear hr
  go_wp2
  go_quiet (fail)
  go_wp2
  exact bodyPost_ret (v := .tuple #[.bool r, .string s, .int .i64 p, .int .i64 dep, .slice ka kl kc]) (by simp [results, Try.results12, go_sem]) rfl ⟨p, H.out, by rw [HR.out], below_drewN HB.out _⟩

theorem zzdigit_any (c : UInt8) (w : World) : Calls Try.prog 13 #[.int .u8 (c.toNat : Int)] w fun e w' => e = .returned (.bool (digitB c)) ∧ w' = w := by
  by_cases hlo : (48 : Int) ≤ (c.toNat : Int)
  · by_cases hhi : (c.toNat : Int) ≤ 57
    · go_enter Try.func13, Try.ntmps13
      go_wp2
      go_ret
      exact ⟨ret_bool (by rw [digit_yes c hlo hhi]), rfl⟩
    · go_enter Try.func13, Try.ntmps13
      go_wp2
      go_ret
      exact ⟨ret_bool (by rw [digit_high c (by omega)]), rfl⟩
  · go_enter Try.func13, Try.ntmps13
    go_wp2
    go_ret
    exact ⟨ret_bool (by rw [digit_low c (by omega)]), rfl⟩
end Go.Proofs.Qxb6617773a
