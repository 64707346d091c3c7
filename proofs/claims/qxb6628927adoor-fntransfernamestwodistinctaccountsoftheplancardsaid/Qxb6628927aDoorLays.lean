/-
  Seat b6628927aD: the shelf's contracts of strconv.Itoa and strconv.FormatInt (base 10), laid at this program.
-/
import Derived.Test.Qxb6628927aDoorRows
import Derived.Shelf.Strconv.Itoa4
import Derived.Shelf.Lay
import Derived.Ground.NamesProg
import Derived.WalkKit
namespace Go.Proofs
open Go.Shelf Go.RowKit

shelf_lay LaysM.n171 Nm 171 at Tryd as Tryd.laysItoa
shelf_lay LaysM.n173 Nm 173 at Tryd as Tryd.laysFormatInt

/-- The table's name, as the row lists it. -/
def Qxb6628927aDoor.tabName : String := Qxb6628927aDoor.Rows.fnTransferAgreesAcrossAccountCountsRow.named.headD ""

theorem below_grow (w : World) (k : Nat) (os : Array Obj) : Below w.heap.size w (Sort.grow (w.drewN k) os) :=
  ⟨rfl, rfl, rfl, by simp [Sort.grow], fun i hi => by simp [Sort.grow, Array.getElem?_append, hi]⟩

theorem Tryd.itoa_calls (n : Int) (h0 : -9223372036854775808 ≤ n) (h1 : n ≤ 9223372036854775807) (w : World) (htab : Lib.TabIs Tryd.prog w Qxb6628927aDoor.tabName .u64 Lib.pow10Tab) :
    Calls Tryd.prog 13 #[.int .i64 n] w fun e w' => e = .returned (.string ⟨(Lib.itoa n).toArray⟩) ∧ Below w.heap.size w w' :=
  (Any.strconv_Itoa Tryd.laysItoa n h0 h1 w htab).mono fun e w' ⟨he, k, os, hw⟩ => ⟨he, by rw [hw]; exact below_grow w k os⟩
theorem Tryd.formatInt_calls (n : Int) (h0 : -9223372036854775808 ≤ n) (h1 : n ≤ 9223372036854775807) (w : World) (htab : Lib.TabIs Tryd.prog w Qxb6628927aDoor.tabName .u64 Lib.pow10Tab) :
    Calls Tryd.prog 12 #[.int .i64 n, .int .i64 10] w fun e w' => e = .returned (.string ⟨(Lib.itoa n).toArray⟩) ∧ Below w.heap.size w w' :=
  (Any.strconv_FormatInt_10 Tryd.laysFormatInt n h0 h1 w htab).mono fun e w' ⟨he, k, os, hw⟩ => ⟨he, by rw [hw]; exact below_grow w k os⟩

end Go.Proofs
