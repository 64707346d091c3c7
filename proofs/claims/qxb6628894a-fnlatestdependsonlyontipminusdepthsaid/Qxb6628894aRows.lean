/-
  No cell of these rows narrows 'for every input' (looked for: loops, veiled, ifaces, maps, wideKeys, modest, calm, conditions, laid).
  DERIVED. THE GIVEN ROWS OF THIS SEAT. 2 by the template 'for every input the law returns true; each argument reads behind the call as it read before'; 0 by the template 'total and deterministic' (their statements: Qxb6628894aTotals.lean).
  GIVEN WITH THE SEED: the statements are not yours to turn. If you find one false, say at which input.
  Laid BY PROGRAM, IN A SANDBOX (cutbox-rows.mjs): the forced cells as the released guide's own fill.sh prints them over the translation 53bfa16ab5c4b019… (all of the seat's roots in one cut). By AI agents, Wed Nov 11 2026. No macro, syntax, notation, axiom, sorry.
-/
import Derived.Test.Qxb6628894aChecked
import GoSem.Claim
import GoSem.ClaimJoined
import GoSem.ClaimMapViews
import Derived.JoinedTies
import Derived.KernelRfl
namespace Go.Proofs.Qxb6628894a
/- THE CELL 'sum', in the pinned program and in every row, IS THE sha256 OF THE DUMP (.gsa) THAT Qxb6628894aProg.lean LOADS. Nothing in Lean hashes anything: it is a label: what it is worth is what the hold of that sum in a sandbox is worth. -/
noncomputable def Try.pinned : Pinned := { name := "qxb6628894a", sum := "53bfa16ab5c4b0198e9e3bb34e33abe4da52c78fdc419b0615baca71e90c5e90", checked := Try.checked }
namespace Rows
def none {H : Type} : Left H := { results := [], args := [] }

/-- 'zzlaws_root_b1.FnLatestStepsByInterval': WHATEVER THE INPUT: true; the input reads as it did. -/
def fnLatestStepsByIntervalSpec : ChangeSpec := { name := "fnLatestStepsByInterval", fn := fun _ => fun
  | [d1, d2, d3] => { results := [.lit (.bool true)], args := [d1, d2, d3] }
  | _ => none }
def fnLatestStepsByIntervalRow : OpenClaim := { program := "qxb6628894a", sum := "53bfa16ab5c4b0198e9e3bb34e33abe4da52c78fdc419b0615baca71e90c5e90", func := "example.com/quorumkit/quorumkit/zzlaws_root_b1.FnLatestStepsByInterval", spec := "fnLatestStepsByInterval", apart := false }
def FnLatestStepsByIntervalSaid : Prop := fnLatestStepsByIntervalRow.holds Try.pinned (OpenSpec.ofChange fnLatestStepsByIntervalSpec)

/-- ITS FALSE NEIGHBOUR: 'it returns false'. Refute it at one input. -/
def fnLatestStepsByIntervalWrong : ChangeSpec := { name := "fnLatestStepsByInterval", fn := fun _ => fun
  | [d1, d2, d3] => { results := [.lit (.bool false)], args := [d1, d2, d3] }
  | _ => none }
def FnLatestStepsByIntervalWrongFalsely : Prop := fnLatestStepsByIntervalRow.holds Try.pinned (OpenSpec.ofChange fnLatestStepsByIntervalWrong)

/-- 'zzlaws_root_b1.FnLatestDependsOnlyOnTipMinusDepth': WHATEVER THE INPUT: true; the input reads as it did. -/
def fnLatestDependsOnlyOnTipMinusDepthSpec : ChangeSpec := { name := "fnLatestDependsOnlyOnTipMinusDepth", fn := fun _ => fun
  | [d1, d2, d3, d4] => { results := [.lit (.bool true)], args := [d1, d2, d3, d4] }
  | _ => none }
def fnLatestDependsOnlyOnTipMinusDepthRow : OpenClaim := { program := "qxb6628894a", sum := "53bfa16ab5c4b0198e9e3bb34e33abe4da52c78fdc419b0615baca71e90c5e90", func := "example.com/quorumkit/quorumkit/zzlaws_root_b1.FnLatestDependsOnlyOnTipMinusDepth", spec := "fnLatestDependsOnlyOnTipMinusDepth", apart := false }
def FnLatestDependsOnlyOnTipMinusDepthSaid : Prop := fnLatestDependsOnlyOnTipMinusDepthRow.holds Try.pinned (OpenSpec.ofChange fnLatestDependsOnlyOnTipMinusDepthSpec)

/-- ITS FALSE NEIGHBOUR: 'it returns false'. Refute it at one input. -/
def fnLatestDependsOnlyOnTipMinusDepthWrong : ChangeSpec := { name := "fnLatestDependsOnlyOnTipMinusDepth", fn := fun _ => fun
  | [d1, d2, d3, d4] => { results := [.lit (.bool false)], args := [d1, d2, d3, d4] }
  | _ => none }
def FnLatestDependsOnlyOnTipMinusDepthWrongFalsely : Prop := fnLatestDependsOnlyOnTipMinusDepthRow.holds Try.pinned (OpenSpec.ofChange fnLatestDependsOnlyOnTipMinusDepthWrong)

end Rows
end Go.Proofs.Qxb6628894a
