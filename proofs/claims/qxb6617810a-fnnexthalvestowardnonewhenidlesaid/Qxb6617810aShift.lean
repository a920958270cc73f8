/-
  'reduction >> k' AT A REDUCTION UP TO 99, WHATEVER THE COUNT.
-/
import Derived.Test.Qxb6617810aNext
import Derived.Test.Qxb6617810aHalf
import Derived.Laws.Shifts
namespace Go.Proofs.Qxb6617810a
open Go.ChangeShapes Go.WideShapes Go.ChangeAt Go.RowKit

theorem pow_min (r k : Nat) (hr : r ≤ 99) : r / 2 ^ min k 32 = r / 2 ^ k := by
  by_cases h : k ≤ 32
  · rw [Nat.min_eq_left h]
  · have h1 : 2 ^ 32 ≤ 2 ^ k := Nat.pow_le_pow_right (by omega) (by omega)
    rw [Nat.min_eq_right (by omega), Nat.div_eq_of_lt (show r < 2 ^ 32 by omega), Nat.div_eq_of_lt (by omega)]

theorem shr_u32 (r k : Nat) (hr : r ≤ 99) (yk : IntKind) : Op.shift .shr .u32 (r : Int) yk (k : Int) = pure (.int .u32 ((r / 2 ^ k : Nat) : Int)) := by
  rw [shift_shr_any .u32 yk (r : Int) (k : Int) (by omega)]
  have e : (r : Int) / 2 ^ min (k : Int).toNat IntKind.u32.bits = ((r / 2 ^ k : Nat) : Int) := by
    rw [← pow_min r k hr, Int.natCast_ediv, Int.natCast_pow]
    rfl
  rw [e]
end Go.Proofs.Qxb6617810a
