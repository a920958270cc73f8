/-
  No cell of these rows narrows 'for every input' (looked for: loops, veiled, ifaces, maps, wideKeys, modest, calm, conditions, laid).
  DERIVED. THE GIVEN ROWS OF THIS SEAT. 1 by the template 'for every input the law returns true; each argument reads behind the call as it read before'; 0 by the template 'total and deterministic' (their statements: Qxb6617795aTotals.lean).
  GIVEN WITH THE SEED: the statements are not yours to turn. If you find one false, say at which input.
  Laid BY PROGRAM, IN A SANDBOX (cutbox-rows.mjs): the forced cells as the released guide's own fill.sh prints them over the translation d7f4ea4aecd097f8… (all of the seat's roots in one cut). By AI agents, Wed Nov 11 2026. No macro, syntax, notation, axiom, sorry.
-/
import Derived.Test.Qxb6617795aChecked
import GoSem.Claim
import GoSem.ClaimJoined
import GoSem.ClaimMapViews
import Derived.JoinedTies
import Derived.KernelRfl
namespace Go.Proofs.Qxb6617795a
/- THE CELL 'sum', in the pinned program and in every row, IS THE sha256 OF THE DUMP (.gsa) THAT Qxb6617795aProg.lean LOADS. Nothing in Lean hashes anything: it is a label: what it is worth is what the hold of that sum in a sandbox is worth. -/
noncomputable def Try.pinned : Pinned := { name := "qxb6617795a", sum := "d7f4ea4aecd097f81d69435db6abc11dbe86c726ceceb94019470ff79486bb8a", checked := Try.checked }
namespace Rows
def none {H : Type} : Left H := { results := [], args := [] }

/-- 'zzlaws_root_b1.FnDeclaredReadsBackTypeAndNullability': WHATEVER THE INPUT: true; the input reads as it did. -/
def fnDeclaredReadsBackTypeAndNullabilitySpec : ChangeSpec := { name := "fnDeclaredReadsBackTypeAndNullability", fn := fun _ => fun
  | [d1, d2, d3, d4, d5, d6] => { results := [.lit (.bool true)], args := [d1, d2, d3, d4, d5, d6] }
  | _ => none }
def fnDeclaredReadsBackTypeAndNullabilityRow : OpenClaim := { program := "qxb6617795a", sum := "d7f4ea4aecd097f81d69435db6abc11dbe86c726ceceb94019470ff79486bb8a", func := "example.com/driftsum/driftsum/zzlaws_root_b1.FnDeclaredReadsBackTypeAndNullability", spec := "fnDeclaredReadsBackTypeAndNullability", apart := false }
def FnDeclaredReadsBackTypeAndNullabilitySaid : Prop := fnDeclaredReadsBackTypeAndNullabilityRow.holds Try.pinned (OpenSpec.ofChange fnDeclaredReadsBackTypeAndNullabilitySpec)

/-- ITS FALSE NEIGHBOUR: 'it returns false'. Refute it at one input. -/
def fnDeclaredReadsBackTypeAndNullabilityWrong : ChangeSpec := { name := "fnDeclaredReadsBackTypeAndNullability", fn := fun _ => fun
  | [d1, d2, d3, d4, d5, d6] => { results := [.lit (.bool false)], args := [d1, d2, d3, d4, d5, d6] }
  | _ => none }
def FnDeclaredReadsBackTypeAndNullabilityWrongFalsely : Prop := fnDeclaredReadsBackTypeAndNullabilityRow.holds Try.pinned (OpenSpec.ofChange fnDeclaredReadsBackTypeAndNullabilityWrong)

end Rows
end Go.Proofs.Qxb6617795a
