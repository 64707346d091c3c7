/-
  DERIVED. GIVEN WITH THE SEED: THE CARDS: each row of Qxb6628927aDoorRows.lean that lists a variable, with what it lists TIED to the program's text (the seventh form; the later family's looks); each row that meets fmt, with fmt's text TOLD by the authors' own Lean function (tested against real Go, not proved from fmt's source: count such statements apart). THE CARD IS WHAT COUNTS. Prove the row's statement (the work); the ties are given (Qxb6628927aDoorTie.lean); close each card by the builder's one call (the guide's Derived/Test/ToyasCard.lean, 'card_holds'). Laid BY PROGRAM, IN A SANDBOX (cutbox-door.mjs). By AI agents, Wed Nov 11 2026. No macro, syntax, notation, axiom, sorry.
-/
import Derived.Test.Qxb6628927aDoorRows
import GoSem.ClaimSeven
namespace Go.Proofs.Qxb6628927aDoor
namespace Rows

/-- THE TIED CARD OF 'zzlaws_pkg_bench_b1.FnTransferNamesTwoDistinctAccountsOfThePlan'. -/
def fnTransferNamesTwoDistinctAccountsOfThePlanCard : Claim7 := { stood := { row := fnTransferNamesTwoDistinctAccountsOfThePlanRow, standIns := [], harness := (true, "2c21f05e6275deb605dc34ee80f0d1f64de798d09f6aa7034f7f925db92dd7f2"), looks := false }, kinds := [], alts := [], laidByText := true, laidKinds := [.data, .data, .data], laidTests := true, laidLooks := .later }
def FnTransferNamesTwoDistinctAccountsOfThePlanCardSaid : Prop := Claim7.holds Tryd.pinned (.plain (OpenSpec.ofChange fnTransferNamesTwoDistinctAccountsOfThePlanSpec)) fnTransferNamesTwoDistinctAccountsOfThePlanCard

/-- THE TIED CARD OF 'zzlaws_pkg_bench_b1.FnTransferAgreesAcrossAccountCounts'. -/
def fnTransferAgreesAcrossAccountCountsCard : Claim7 := { stood := { row := fnTransferAgreesAcrossAccountCountsRow, standIns := [], harness := (true, "2c21f05e6275deb605dc34ee80f0d1f64de798d09f6aa7034f7f925db92dd7f2"), looks := false }, kinds := [], alts := [], laidByText := true, laidKinds := [.data, .data, .data], laidTests := true, laidLooks := .later }
def FnTransferAgreesAcrossAccountCountsCardSaid : Prop := Claim7.holds Tryd.pinned (.plain (OpenSpec.ofChange fnTransferAgreesAcrossAccountCountsSpec)) fnTransferAgreesAcrossAccountCountsCard
end Rows
end Go.Proofs.Qxb6628927aDoor
