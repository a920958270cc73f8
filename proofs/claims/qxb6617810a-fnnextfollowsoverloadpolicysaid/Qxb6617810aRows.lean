/-
  No cell of these rows narrows 'for every input' (looked for: loops, veiled, ifaces, maps, wideKeys, modest, calm, conditions, laid).
  DERIVED. THE GIVEN ROWS OF THIS SEAT. 3 by the template 'for every input the law returns true; each argument reads behind the call as it read before'; 0 by the template 'total and deterministic' (their statements: Qxb6617810aTotals.lean).
  GIVEN WITH THE SEED: the statements are not yours to turn. If you find one false, say at which input.
  Laid BY PROGRAM, IN A SANDBOX (cutbox-rows.mjs): the forced cells as the released guide's own fill.sh prints them over the translation a383ab27a07cc636… (all of the seat's roots in one cut). By AI agents, Wed Nov 11 2026. No macro, syntax, notation, axiom, sorry.
-/
import Derived.Test.Qxb6617810aChecked
import GoSem.Claim
import GoSem.ClaimJoined
import GoSem.ClaimMapViews
import Derived.JoinedTies
import Derived.KernelRfl
namespace Go.Proofs.Qxb6617810a
/- THE CELL 'sum', in the pinned program and in every row, IS THE sha256 OF THE DUMP (.gsa) THAT Qxb6617810aProg.lean LOADS. Nothing in Lean hashes anything: it is a label: what it is worth is what the hold of that sum in a sandbox is worth. -/
noncomputable def Try.pinned : Pinned := { name := "qxb6617810a", sum := "a383ab27a07cc63669e6c0a9a5435723e0d54cae466520565bab31ccd8e0a43a", checked := Try.checked }
namespace Rows
def none {H : Type} : Left H := { results := [], args := [] }

/-- 'zzlaws_doic_b1.FnLeastIsLeastAdequateReduction': WHATEVER THE INPUT: true; the input reads as it did. -/
def fnLeastIsLeastAdequateReductionSpec : ChangeSpec := { name := "fnLeastIsLeastAdequateReduction", fn := fun _ => fun
  | [d1, d2, d3, d4] => { results := [.lit (.bool true)], args := [d1, d2, d3, d4] }
  | _ => none }
def fnLeastIsLeastAdequateReductionRow : OpenClaim := { program := "qxb6617810a", sum := "a383ab27a07cc63669e6c0a9a5435723e0d54cae466520565bab31ccd8e0a43a", func := "example.com/weir/weir/zzlaws_doic_b1.FnLeastIsLeastAdequateReduction", spec := "fnLeastIsLeastAdequateReduction", apart := false }
def FnLeastIsLeastAdequateReductionSaid : Prop := fnLeastIsLeastAdequateReductionRow.holds Try.pinned (OpenSpec.ofChange fnLeastIsLeastAdequateReductionSpec)

/-- ITS FALSE NEIGHBOUR: 'it returns false'. Refute it at one input. -/
def fnLeastIsLeastAdequateReductionWrong : ChangeSpec := { name := "fnLeastIsLeastAdequateReduction", fn := fun _ => fun
  | [d1, d2, d3, d4] => { results := [.lit (.bool false)], args := [d1, d2, d3, d4] }
  | _ => none }
def FnLeastIsLeastAdequateReductionWrongFalsely : Prop := fnLeastIsLeastAdequateReductionRow.holds Try.pinned (OpenSpec.ofChange fnLeastIsLeastAdequateReductionWrong)

/-- 'zzlaws_doic_b1.FnNextFollowsOverloadPolicy': WHATEVER THE INPUT: true; the input reads as it did. -/
def fnNextFollowsOverloadPolicySpec : ChangeSpec := { name := "fnNextFollowsOverloadPolicy", fn := fun _ => fun
  | [d1, d2, d3, d4] => { results := [.lit (.bool true)], args := [d1, d2, d3, d4] }
  | _ => none }
def fnNextFollowsOverloadPolicyRow : OpenClaim := { program := "qxb6617810a", sum := "a383ab27a07cc63669e6c0a9a5435723e0d54cae466520565bab31ccd8e0a43a", func := "example.com/weir/weir/zzlaws_doic_b1.FnNextFollowsOverloadPolicy", spec := "fnNextFollowsOverloadPolicy", apart := false }
def FnNextFollowsOverloadPolicySaid : Prop := fnNextFollowsOverloadPolicyRow.holds Try.pinned (OpenSpec.ofChange fnNextFollowsOverloadPolicySpec)

/-- ITS FALSE NEIGHBOUR: 'it returns false'. Refute it at one input. -/
def fnNextFollowsOverloadPolicyWrong : ChangeSpec := { name := "fnNextFollowsOverloadPolicy", fn := fun _ => fun
  | [d1, d2, d3, d4] => { results := [.lit (.bool false)], args := [d1, d2, d3, d4] }
  | _ => none }
def FnNextFollowsOverloadPolicyWrongFalsely : Prop := fnNextFollowsOverloadPolicyRow.holds Try.pinned (OpenSpec.ofChange fnNextFollowsOverloadPolicyWrong)

/-- 'zzlaws_doic_b1.FnNextHalvesTowardNoneWhenIdle': WHATEVER THE INPUT: true; the input reads as it did. -/
def fnNextHalvesTowardNoneWhenIdleSpec : ChangeSpec := { name := "fnNextHalvesTowardNoneWhenIdle", fn := fun _ => fun
  | [d1, d2, d3, d4, d5] => { results := [.lit (.bool true)], args := [d1, d2, d3, d4, d5] }
  | _ => none }
def fnNextHalvesTowardNoneWhenIdleRow : OpenClaim := { program := "qxb6617810a", sum := "a383ab27a07cc63669e6c0a9a5435723e0d54cae466520565bab31ccd8e0a43a", func := "example.com/weir/weir/zzlaws_doic_b1.FnNextHalvesTowardNoneWhenIdle", spec := "fnNextHalvesTowardNoneWhenIdle", apart := false }
def FnNextHalvesTowardNoneWhenIdleSaid : Prop := fnNextHalvesTowardNoneWhenIdleRow.holds Try.pinned (OpenSpec.ofChange fnNextHalvesTowardNoneWhenIdleSpec)

/-- ITS FALSE NEIGHBOUR: 'it returns false'. Refute it at one input. -/
def fnNextHalvesTowardNoneWhenIdleWrong : ChangeSpec := { name := "fnNextHalvesTowardNoneWhenIdle", fn := fun _ => fun
  | [d1, d2, d3, d4, d5] => { results := [.lit (.bool false)], args := [d1, d2, d3, d4, d5] }
  | _ => none }
def FnNextHalvesTowardNoneWhenIdleWrongFalsely : Prop := fnNextHalvesTowardNoneWhenIdleRow.holds Try.pinned (OpenSpec.ofChange fnNextHalvesTowardNoneWhenIdleWrong)

end Rows
end Go.Proofs.Qxb6617810a
