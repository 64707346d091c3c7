/-
  Seat b6628927aD: the row's condition: the door's own heap meets it; it gives the table that strconv reads.
-/
import Derived.Test.Qxb6628927aDoorLaw
import Derived.Test.Qxb6628927aDoorTie
import Derived.ProofKit
import Derived.LaidMore
import Derived.OpenShut
import Derived.ShutString
import Derived.Stop.Joined
import Derived.SevenTiedAt
namespace Go.Proofs.Qxb6628927aDoor
open Go.ChangeShapes Go.WideShapes Go.ChangeAt Go.RowKit

theorem own : ownKnob Tryd.prog.godebug = none := by kernel_rfl
theorem laidOut : laidOutB Tryd.prog = true := by kernel_rfl

theorem door_met (os : Os) (args : Array Value) : laidMetH Tryd.prog Rows.fnTransferAgreesAcrossAccountCountsRow.laid ((World.doorLaid Tryd.prog 24 os).forCall (fun _ _ => 0) ⟨#[], args, []⟩).memory :=
  laidMetH_of_parts3 (fuel := 8) (laidMet_of_run' 8 (by kernel_rfl) (by kernel_rfl)) (by kernel_rfl) (by kernel_rfl)

theorem tab_of_laid {W : World} (h : laidMetH Tryd.prog Rows.fnTransferAgreesAcrossAccountCountsRow.laid W) : Tab W := by
  rw [MakeChecks.laidMetH_plain _ _ _ (by kernel_rfl)] at h
  obtain ⟨ps, ⟨g0, t0, cs0, f0, p0, q0, _, _, _, _, ⟨g1, t1, cs1, f1, p1, q1, _, _, _, _, ⟨g2, t2, cs2, f2, p2, q2, hg2, ht2, hv2, hd2, _, _⟩, _⟩, _⟩, _, _⟩ := h
  obtain rfl := Option.some.inj ((show Tryd.prog.globalNamed tabName = some 0 by kernel_rfl).symm.trans hg2)
  obtain rfl := Option.some.inj ((show (Tryd.prog.globals[0]?).map (·.type) = some 47 by kernel_rfl).symm.trans ht2)
  have hd : DataW.trod (fun _ => ()) Tryd.prog W 0 (fun _ => true) false f2 47 cs2.toList = some (Lib.tabData .u64 Lib.pow10Tab, p2) := hd2
  have hc := Lib.cells_of_tab Tryd.underlying47 Tryd.underlying33 (by kernel_rfl) (by kernel_rfl) hd
  have hv : W.var? Tryd.prog tabName = some cs2 := hv2
  show W.var? Tryd.prog tabName = _
  rw [hv, ← hc]

end Go.Proofs.Qxb6628927aDoor
