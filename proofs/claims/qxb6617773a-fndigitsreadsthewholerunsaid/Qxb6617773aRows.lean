/-
  No cell of these rows narrows 'for every input' (looked for: loops, veiled, ifaces, maps, wideKeys, modest, calm, conditions, laid).
  DERIVED. THE GIVEN ROWS OF THIS SEAT. 4 by the template 'for every input the law returns true; each argument reads behind the call as it read before'; 0 by the template 'total and deterministic' (their statements: Qxb6617773aTotals.lean).
  GIVEN WITH THE SEED: the statements are not yours to turn. If you find one false, say at which input.
  Laid BY PROGRAM, IN A SANDBOX (cutbox-rows.mjs): the forced cells as the released guide's own fill.sh prints them over the translation 10d0c472ab0ffe7f… (all of the seat's roots in one cut). By AI agents, Wed Nov 11 2026. No macro, syntax, notation, axiom, sorry.
-/
import Derived.Test.Qxb6617773aChecked
import GoSem.Claim
import GoSem.ClaimJoined
import GoSem.ClaimMapViews
import Derived.JoinedTies
import Derived.KernelRfl
namespace Go.Proofs.Qxb6617773a
/- THE CELL 'sum', in the pinned program and in every row, IS THE sha256 OF THE DUMP (.gsa) THAT Qxb6617773aProg.lean LOADS. Nothing in Lean hashes anything: it is a label: what it is worth is what the hold of that sum in a sandbox is worth. -/
noncomputable def Try.pinned : Pinned := { name := "qxb6617773a", sum := "10d0c472ab0ffe7fd6e91312575b76b6c8ac9d8acbd7c1083755b1566d59a3af", checked := Try.checked }
namespace Rows
def none {H : Type} : Left H := { results := [], args := [] }

/-- 'zzlaws_pkg_plan_b1.FnPeekStopsAtFirstNonBlank': WHATEVER THE INPUT: true; the input reads as it did. -/
def fnPeekStopsAtFirstNonBlankSpec : ChangeSpec := { name := "fnPeekStopsAtFirstNonBlank", fn := fun _ => fun
  | [d1, d2, d3, d4] => { results := [.lit (.bool true)], args := [d1, d2, d3, d4] }
  | _ => none }
def fnPeekStopsAtFirstNonBlankRow : OpenClaim := { program := "qxb6617773a", sum := "10d0c472ab0ffe7fd6e91312575b76b6c8ac9d8acbd7c1083755b1566d59a3af", func := "example.com/vestline/vestline/zzlaws_pkg_plan_b1.FnPeekStopsAtFirstNonBlank", spec := "fnPeekStopsAtFirstNonBlank", apart := false }
def FnPeekStopsAtFirstNonBlankSaid : Prop := fnPeekStopsAtFirstNonBlankRow.holds Try.pinned (OpenSpec.ofChange fnPeekStopsAtFirstNonBlankSpec)

/-- ITS FALSE NEIGHBOUR: 'it returns false'. Refute it at one input. -/
def fnPeekStopsAtFirstNonBlankWrong : ChangeSpec := { name := "fnPeekStopsAtFirstNonBlank", fn := fun _ => fun
  | [d1, d2, d3, d4] => { results := [.lit (.bool false)], args := [d1, d2, d3, d4] }
  | _ => none }
def FnPeekStopsAtFirstNonBlankWrongFalsely : Prop := fnPeekStopsAtFirstNonBlankRow.holds Try.pinned (OpenSpec.ofChange fnPeekStopsAtFirstNonBlankWrong)

/-- 'zzlaws_pkg_plan_b1.FnDigitsReadsTheWholeRun': WHATEVER THE INPUT: true; the input reads as it did. -/
def fnDigitsReadsTheWholeRunSpec : ChangeSpec := { name := "fnDigitsReadsTheWholeRun", fn := fun _ => fun
  | [d1, d2, d3, d4] => { results := [.lit (.bool true)], args := [d1, d2, d3, d4] }
  | _ => none }
def fnDigitsReadsTheWholeRunRow : OpenClaim := { program := "qxb6617773a", sum := "10d0c472ab0ffe7fd6e91312575b76b6c8ac9d8acbd7c1083755b1566d59a3af", func := "example.com/vestline/vestline/zzlaws_pkg_plan_b1.FnDigitsReadsTheWholeRun", spec := "fnDigitsReadsTheWholeRun", apart := false }
def FnDigitsReadsTheWholeRunSaid : Prop := fnDigitsReadsTheWholeRunRow.holds Try.pinned (OpenSpec.ofChange fnDigitsReadsTheWholeRunSpec)

/-- ITS FALSE NEIGHBOUR: 'it returns false'. Refute it at one input. -/
def fnDigitsReadsTheWholeRunWrong : ChangeSpec := { name := "fnDigitsReadsTheWholeRun", fn := fun _ => fun
  | [d1, d2, d3, d4] => { results := [.lit (.bool false)], args := [d1, d2, d3, d4] }
  | _ => none }
def FnDigitsReadsTheWholeRunWrongFalsely : Prop := fnDigitsReadsTheWholeRunRow.holds Try.pinned (OpenSpec.ofChange fnDigitsReadsTheWholeRunWrong)

/-- 'zzlaws_pkg_plan_b1.FnPeekSameOnEveryCutAndFromInsideTheRun': WHATEVER THE INPUT: true; the input reads as it did. -/
def fnPeekSameOnEveryCutAndFromInsideTheRunSpec : ChangeSpec := { name := "fnPeekSameOnEveryCutAndFromInsideTheRun", fn := fun _ => fun
  | [d1, d2, d3, d4, d5] => { results := [.lit (.bool true)], args := [d1, d2, d3, d4, d5] }
  | _ => none }
def fnPeekSameOnEveryCutAndFromInsideTheRunRow : OpenClaim := { program := "qxb6617773a", sum := "10d0c472ab0ffe7fd6e91312575b76b6c8ac9d8acbd7c1083755b1566d59a3af", func := "example.com/vestline/vestline/zzlaws_pkg_plan_b1.FnPeekSameOnEveryCutAndFromInsideTheRun", spec := "fnPeekSameOnEveryCutAndFromInsideTheRun", apart := false }
def FnPeekSameOnEveryCutAndFromInsideTheRunSaid : Prop := fnPeekSameOnEveryCutAndFromInsideTheRunRow.holds Try.pinned (OpenSpec.ofChange fnPeekSameOnEveryCutAndFromInsideTheRunSpec)

/-- ITS FALSE NEIGHBOUR: 'it returns false'. Refute it at one input. -/
def fnPeekSameOnEveryCutAndFromInsideTheRunWrong : ChangeSpec := { name := "fnPeekSameOnEveryCutAndFromInsideTheRun", fn := fun _ => fun
  | [d1, d2, d3, d4, d5] => { results := [.lit (.bool false)], args := [d1, d2, d3, d4, d5] }
  | _ => none }
def FnPeekSameOnEveryCutAndFromInsideTheRunWrongFalsely : Prop := fnPeekSameOnEveryCutAndFromInsideTheRunRow.holds Try.pinned (OpenSpec.ofChange fnPeekSameOnEveryCutAndFromInsideTheRunWrong)

/-- 'zzlaws_pkg_plan_b1.FnDigitsSameOnEveryCutAndFromInsideTheRun': WHATEVER THE INPUT: true; the input reads as it did. -/
def fnDigitsSameOnEveryCutAndFromInsideTheRunSpec : ChangeSpec := { name := "fnDigitsSameOnEveryCutAndFromInsideTheRun", fn := fun _ => fun
  | [d1, d2, d3, d4, d5] => { results := [.lit (.bool true)], args := [d1, d2, d3, d4, d5] }
  | _ => none }
def fnDigitsSameOnEveryCutAndFromInsideTheRunRow : OpenClaim := { program := "qxb6617773a", sum := "10d0c472ab0ffe7fd6e91312575b76b6c8ac9d8acbd7c1083755b1566d59a3af", func := "example.com/vestline/vestline/zzlaws_pkg_plan_b1.FnDigitsSameOnEveryCutAndFromInsideTheRun", spec := "fnDigitsSameOnEveryCutAndFromInsideTheRun", apart := false }
def FnDigitsSameOnEveryCutAndFromInsideTheRunSaid : Prop := fnDigitsSameOnEveryCutAndFromInsideTheRunRow.holds Try.pinned (OpenSpec.ofChange fnDigitsSameOnEveryCutAndFromInsideTheRunSpec)

/-- ITS FALSE NEIGHBOUR: 'it returns false'. Refute it at one input. -/
def fnDigitsSameOnEveryCutAndFromInsideTheRunWrong : ChangeSpec := { name := "fnDigitsSameOnEveryCutAndFromInsideTheRun", fn := fun _ => fun
  | [d1, d2, d3, d4, d5] => { results := [.lit (.bool false)], args := [d1, d2, d3, d4, d5] }
  | _ => none }
def FnDigitsSameOnEveryCutAndFromInsideTheRunWrongFalsely : Prop := fnDigitsSameOnEveryCutAndFromInsideTheRunRow.holds Try.pinned (OpenSpec.ofChange fnDigitsSameOnEveryCutAndFromInsideTheRunWrong)

end Rows
end Go.Proofs.Qxb6617773a
