/-
  No cell of these rows narrows 'for every input' (looked for: loops, veiled, ifaces, maps, wideKeys, modest, calm, conditions, laid).
  DERIVED. THE GIVEN ROWS OF THIS SEAT. 2 by the template 'for every input the law returns true; each argument reads behind the call as it read before'; 0 by the template 'total and deterministic' (their statements: Qxb6628961aTotals.lean).
  GIVEN WITH THE SEED: the statements are not yours to turn. If you find one false, say at which input.
  Laid BY PROGRAM, IN A SANDBOX (cutbox-rows.mjs): the forced cells as the released guide's own fill.sh prints them over the translation c8394141dd8e8adc… (all of the seat's roots in one cut). By AI agents, Wed Nov 11 2026. No macro, syntax, notation, axiom, sorry.
-/
import Derived.Test.Qxb6628961aChecked
import GoSem.Claim
import GoSem.ClaimJoined
import GoSem.ClaimMapViews
import Derived.JoinedTies
import Derived.KernelRfl
namespace Go.Proofs.Qxb6628961a
/- THE CELL 'sum', in the pinned program and in every row, IS THE sha256 OF THE DUMP (.gsa) THAT Qxb6628961aProg.lean LOADS. Nothing in Lean hashes anything: it is a label: what it is worth is what the hold of that sum in a sandbox is worth. -/
noncomputable def Try.pinned : Pinned := { name := "qxb6628961a", sum := "c8394141dd8e8adcf6a284e84304c9168aff8c84939a50b6a53acbe72e25ed7c", checked := Try.checked }
namespace Rows
def none {H : Type} : Left H := { results := [], args := [] }

/-- 'zzlaws_internal_terms_b1.FnWorkingMinutesCountsAndSplits': WHATEVER THE INPUT: true; the input reads as it did. -/
def fnWorkingMinutesCountsAndSplitsSpec : ChangeSpec := { name := "fnWorkingMinutesCountsAndSplits", fn := fun _ => fun
  | [d1, d2, d3, d4, d5, d6] => { results := [.lit (.bool true)], args := [d1, d2, d3, d4, d5, d6] }
  | _ => none }
def fnWorkingMinutesCountsAndSplitsRow : OpenClaim := { program := "qxb6628961a", sum := "c8394141dd8e8adcf6a284e84304c9168aff8c84939a50b6a53acbe72e25ed7c", func := "example.com/tuoguan/tuoguan/zzlaws_internal_terms_b1.FnWorkingMinutesCountsAndSplits", spec := "fnWorkingMinutesCountsAndSplits", apart := false }
def FnWorkingMinutesCountsAndSplitsSaid : Prop := fnWorkingMinutesCountsAndSplitsRow.holds Try.pinned (OpenSpec.ofChange fnWorkingMinutesCountsAndSplitsSpec)

/-- ITS FALSE NEIGHBOUR: 'it returns false'. Refute it at one input. -/
def fnWorkingMinutesCountsAndSplitsWrong : ChangeSpec := { name := "fnWorkingMinutesCountsAndSplits", fn := fun _ => fun
  | [d1, d2, d3, d4, d5, d6] => { results := [.lit (.bool false)], args := [d1, d2, d3, d4, d5, d6] }
  | _ => none }
def FnWorkingMinutesCountsAndSplitsWrongFalsely : Prop := fnWorkingMinutesCountsAndSplitsRow.holds Try.pinned (OpenSpec.ofChange fnWorkingMinutesCountsAndSplitsWrong)

/-- 'zzlaws_internal_terms_b1.FnWorkingMinutesWithOffHoursFillTheInterval': WHATEVER THE INPUT: true; the input reads as it did. -/
def fnWorkingMinutesWithOffHoursFillTheIntervalSpec : ChangeSpec := { name := "fnWorkingMinutesWithOffHoursFillTheInterval", fn := fun _ => fun
  | [d1, d2, d3, d4, d5, d6] => { results := [.lit (.bool true)], args := [d1, d2, d3, d4, d5, d6] }
  | _ => none }
def fnWorkingMinutesWithOffHoursFillTheIntervalRow : OpenClaim := { program := "qxb6628961a", sum := "c8394141dd8e8adcf6a284e84304c9168aff8c84939a50b6a53acbe72e25ed7c", func := "example.com/tuoguan/tuoguan/zzlaws_internal_terms_b1.FnWorkingMinutesWithOffHoursFillTheInterval", spec := "fnWorkingMinutesWithOffHoursFillTheInterval", apart := false }
def FnWorkingMinutesWithOffHoursFillTheIntervalSaid : Prop := fnWorkingMinutesWithOffHoursFillTheIntervalRow.holds Try.pinned (OpenSpec.ofChange fnWorkingMinutesWithOffHoursFillTheIntervalSpec)

/-- ITS FALSE NEIGHBOUR: 'it returns false'. Refute it at one input. -/
def fnWorkingMinutesWithOffHoursFillTheIntervalWrong : ChangeSpec := { name := "fnWorkingMinutesWithOffHoursFillTheInterval", fn := fun _ => fun
  | [d1, d2, d3, d4, d5, d6] => { results := [.lit (.bool false)], args := [d1, d2, d3, d4, d5, d6] }
  | _ => none }
def FnWorkingMinutesWithOffHoursFillTheIntervalWrongFalsely : Prop := fnWorkingMinutesWithOffHoursFillTheIntervalRow.holds Try.pinned (OpenSpec.ofChange fnWorkingMinutesWithOffHoursFillTheIntervalWrong)

end Rows
end Go.Proofs.Qxb6628961a
