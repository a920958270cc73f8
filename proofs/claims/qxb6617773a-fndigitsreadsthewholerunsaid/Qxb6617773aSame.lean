/-
  THE WALKS OF 'zzSameKeys' (9) AT ONE SLICE TWICE, AND OF 'zzBlank' (10).
-/
import Derived.Test.Qxb6617773aPeek
import Derived.Test.Qxb6617773aKeys
namespace Go.Proofs.Qxb6617773a
open Go.ChangeShapes Go.WideShapes Go.ChangeAt Go.RowKit

theorem ret_bool' {a b : Bool} (h : a = b) : Ending.returned (.bool a) = .returned (.bool b) := by rw [h]

theorem zzblank_any (c : UInt8) (w : World) : Calls Try.prog 10 #[.int .u8 (c.toNat : Int)] w fun e w' => e = .returned (.bool (blankB c)) ∧ w' = w := by
  by_cases h1 : ((c.toNat : Int) == 32) = true
  · go_enter Try.func10, Try.ntmps10
    go_wp2
    go_ret
    exact ⟨ret_bool' (blank_32 c h1).symm, rfl⟩
  rw [Bool.not_eq_true] at h1
  by_cases h2 : ((c.toNat : Int) == 9) = true
  · go_enter Try.func10, Try.ntmps10
    go_wp2
    go_ret
    exact ⟨ret_bool' (blank_9 c h2).symm, rfl⟩
  rw [Bool.not_eq_true] at h2
  by_cases h3 : ((c.toNat : Int) == 10) = true
  · go_enter Try.func10, Try.ntmps10
    go_wp2
    go_ret
    exact ⟨ret_bool' (blank_10 c h3).symm, rfl⟩
  rw [Bool.not_eq_true] at h3
  by_cases h4 : ((c.toNat : Int) == 13) = true
  · go_enter Try.func10, Try.ntmps10
    go_wp2
    go_ret
    exact ⟨ret_bool' (blank_13 c h4).symm, rfl⟩
  rw [Bool.not_eq_true] at h4
  go_enter Try.func10, Try.ntmps10
  go_wp2
  go_ret
  exact ⟨ret_bool' (blank_no c h1 h2 h3 h4).symm, rfl⟩

set_option maxHeartbeats 1000000 in
theorem samekeys_any (ka : Option Addr) (len cap : Nat) (ss : List ByteArray) (w : World) (hl : len ≤ 1048576) (hc : IsStrs w ka len ss) :
    Calls Try.prog 9 #[.slice ka len cap, .slice ka len cap] w fun e w' => e = .returned (.bool true) ∧ ∃ n, w' = w.drewN n := by
  have hne := fun w => Lib.run_eql_slice_nil (P := Try.prog) w 22 9 ka len cap 0 0 Try.underlying22
  have HC : Hid (IsStrs w ka len ss) := hc
  clear hc
  go_enter Try.func9, Try.ntmps9
  go_wp2
  go_loopg [5] len (fun g i wr => ∃ j : Nat, Hid (g = len - j) ∧ j ≤ len ∧ i = .int .i64 j ∧ ∃ n, wr = w.drewN n)
  case atStart => exact ⟨0, by simp [Hid], Nat.zero_le _, rfl, 0, rfl⟩
  case round =>
    obtain ⟨j, hg, hj, rfl, n, rfl⟩ := hrel
    by_cases hlt : j < len
    · obtain ⟨b, off, rfl, _, hcj⟩ := HC.out j hlt
      have hlt' : (j : Int) < (len : Int) := by omega
      obtain ⟨x, hx⟩ : ∃ x, x = ss.getD j ByteArray.empty := ⟨_, rfl⟩
      rw [← hx] at hcj
      clear hx
      go_wp2
      go_quiet (fail)
      go_wp2
      go_roundg (len - (j + 1))
      case measure => have := hg.out; omega
      case rel => exact ⟨j + 1, rfl, by omega, by go_num, _, rfl⟩
    · go_wp2
      go_ret
      exact ⟨rfl, n, rfl⟩
end Go.Proofs.Qxb6617773a
