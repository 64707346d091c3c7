/-
  No cell of these rows narrows 'for every input' (looked for: loops, veiled, ifaces, maps, wideKeys, modest, calm, conditions, laid).
  DERIVED. THE GIVEN ROWS OF THIS SEAT. 2 by the template 'for every input the law returns true; each argument reads behind the call as it read before'; 0 by the template 'total and deterministic' (their statements: Qxb6628854aTotals.lean).
  GIVEN WITH THE SEED: the statements are not yours to turn. If you find one false, say at which input.
  Laid BY PROGRAM, IN A SANDBOX (cutbox-rows.mjs): the forced cells as the released guide's own fill.sh prints them over the translation 5a86f8c1a3f056f4… (all of the seat's roots in one cut). By AI agents, Wed Nov 11 2026. No macro, syntax, notation, axiom, sorry.
-/
import Derived.Test.Qxb6628854aChecked
import GoSem.Claim
import GoSem.ClaimJoined
import GoSem.ClaimMapViews
import Derived.JoinedTies
import Derived.KernelRfl
namespace Go.Proofs.Qxb6628854a
/- THE CELL 'sum', in the pinned program and in every row, IS THE sha256 OF THE DUMP (.gsa) THAT Qxb6628854aProg.lean LOADS. Nothing in Lean hashes anything: it is a label: what it is worth is what the hold of that sum in a sandbox is worth. -/
noncomputable def Try.pinned : Pinned := { name := "qxb6628854a", sum := "5a86f8c1a3f056f4817d6ff832cf052af7ba705eb33e068983b149b8e199122b", checked := Try.checked }
namespace Rows
def none {H : Type} : Left H := { results := [], args := [] }

/-- 'zzlaws_internal_nav_b1.FnKeptPayablesSplitsAtAnyCut': WHATEVER THE INPUT: true; the input reads as it did. -/
def fnKeptPayablesSplitsAtAnyCutSpec : ChangeSpec := { name := "fnKeptPayablesSplitsAtAnyCut", fn := fun _ => fun
  | [d1, d2, d3, d4] => { results := [.lit (.bool true)], args := [d1, d2, d3, d4] }
  | _ => none }
def fnKeptPayablesSplitsAtAnyCutRow : OpenClaim := { program := "qxb6628854a", sum := "5a86f8c1a3f056f4817d6ff832cf052af7ba705eb33e068983b149b8e199122b", func := "example.com/tuoguan/tuoguan/zzlaws_internal_nav_b1.FnKeptPayablesSplitsAtAnyCut", spec := "fnKeptPayablesSplitsAtAnyCut", apart := false }
def FnKeptPayablesSplitsAtAnyCutSaid : Prop := fnKeptPayablesSplitsAtAnyCutRow.holds Try.pinned (OpenSpec.ofChange fnKeptPayablesSplitsAtAnyCutSpec)

/-- ITS FALSE NEIGHBOUR: 'it returns false'. Refute it at one input. -/
def fnKeptPayablesSplitsAtAnyCutWrong : ChangeSpec := { name := "fnKeptPayablesSplitsAtAnyCut", fn := fun _ => fun
  | [d1, d2, d3, d4] => { results := [.lit (.bool false)], args := [d1, d2, d3, d4] }
  | _ => none }
def FnKeptPayablesSplitsAtAnyCutWrongFalsely : Prop := fnKeptPayablesSplitsAtAnyCutRow.holds Try.pinned (OpenSpec.ofChange fnKeptPayablesSplitsAtAnyCutWrong)

/-- 'zzlaws_internal_nav_b1.FnKeptPayablesInsertOneClass': WHATEVER THE INPUT: true; the input reads as it did. -/
def fnKeptPayablesInsertOneClassSpec : ChangeSpec := { name := "fnKeptPayablesInsertOneClass", fn := fun _ => fun
  | [d1, d2, d3, d4, d5, d6] => { results := [.lit (.bool true)], args := [d1, d2, d3, d4, d5, d6] }
  | _ => none }
def fnKeptPayablesInsertOneClassRow : OpenClaim := { program := "qxb6628854a", sum := "5a86f8c1a3f056f4817d6ff832cf052af7ba705eb33e068983b149b8e199122b", func := "example.com/tuoguan/tuoguan/zzlaws_internal_nav_b1.FnKeptPayablesInsertOneClass", spec := "fnKeptPayablesInsertOneClass", apart := false }
def FnKeptPayablesInsertOneClassSaid : Prop := fnKeptPayablesInsertOneClassRow.holds Try.pinned (OpenSpec.ofChange fnKeptPayablesInsertOneClassSpec)

/-- ITS FALSE NEIGHBOUR: 'it returns false'. Refute it at one input. -/
def fnKeptPayablesInsertOneClassWrong : ChangeSpec := { name := "fnKeptPayablesInsertOneClass", fn := fun _ => fun
  | [d1, d2, d3, d4, d5, d6] => { results := [.lit (.bool false)], args := [d1, d2, d3, d4, d5, d6] }
  | _ => none }
def FnKeptPayablesInsertOneClassWrongFalsely : Prop := fnKeptPayablesInsertOneClassRow.holds Try.pinned (OpenSpec.ofChange fnKeptPayablesInsertOneClassWrong)

end Rows
end Go.Proofs.Qxb6628854a
