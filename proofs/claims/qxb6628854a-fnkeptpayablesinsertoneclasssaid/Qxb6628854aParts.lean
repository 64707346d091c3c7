/-
  Seat b6628854a: the plain data of the walks, and what each step of a round does to a loop's relation.
-/
import Derived.Test.Qxb6628854aRows
import Derived.WalkKit
namespace Go.Proofs.Qxb6628854a
open Go.RowKit

theorem Try.cells4 : Try.prog.cellsOf 4 = 1 := by kernel_rfl
theorem Try.cells9 : Try.prog.cellsOf 9 = 1 := by kernel_rfl
theorem Try.cells37 : Try.prog.cellsOf 37 = 2 := by kernel_rfl
theorem Try.info35 : (Try.prog.info? 35).map (fun i => (i.zero, i.size, i.bytes)) = some (some (.agg #[.string ⟨#[]⟩, .string ⟨#[]⟩]), 2, 32) := by kernel_rfl
theorem Try.info37 : (Try.prog.info? 37).map (fun i => (i.zero, i.size, i.bytes)) = some (some (.agg #[.string ⟨#[]⟩, .bool false]), 2, 24) := by kernel_rfl
theorem Try.info48 : (Try.prog.info? 48).map (fun i => (i.zero, i.size, i.bytes)) = some (some (.agg #[.string ⟨#[]⟩, .pointer none]), 2, 24) := by kernel_rfl
theorem Try.info9 : (Try.prog.info? 9).map (fun i => (i.zero, i.size, i.bytes)) = some (some (.string ⟨#[]⟩), 1, 16) := by kernel_rfl

/-- A slice's elements, two cells each: element i's cells hold f i and g i. -/
def PairRow (w : World) (ao : Option Addr) (n : Nat) (f g : Nat → Value) : Prop :=
  ∀ i, i < n → ∃ b off, ao = some ⟨b, off, none⟩ ∧ b < w.heap.size ∧ w.cell? ⟨b, off + i * 2, none⟩ = some (f i) ∧ w.cell? ⟨b, off + i * 2 + 1, none⟩ = some (g i)

theorem PairRow.below {w w' : World} {ao : Option Addr} {n : Nat} {f g : Nat → Value} (h : PairRow w ao n f g) (hb : Below w.heap.size w w') : PairRow w' ao n f g := by
  intro i hi
  obtain ⟨b, off, e, hlt, h1, h2⟩ := h i hi
  exact ⟨b, off, e, Nat.lt_of_lt_of_le hlt hb.size, (hb.cell (p := ⟨b, off + i * 2, none⟩) hlt).trans h1, (hb.cell (p := ⟨b, off + i * 2 + 1, none⟩) hlt).trans h2⟩

/-- The payables: pairs of strings; their cells. -/
def mgmt : ByteArray := ⟨#[109, 97, 110, 97, 103, 101, 109, 101, 110, 116, 95, 102, 101, 101, 95, 112, 97, 121, 97, 98, 108, 101]⟩
def cust : ByteArray := ⟨#[99, 117, 115, 116, 111, 100, 121, 95, 102, 101, 101, 95, 112, 97, 121, 97, 98, 108, 101]⟩
def sales : ByteArray := ⟨#[115, 97, 108, 101, 115, 95, 115, 101, 114, 118, 105, 99, 101, 95, 102, 101, 101, 95, 112, 97, 121, 97, 98, 108, 101]⟩

def payCells (l : List (ByteArray × ByteArray)) : List Value := l.flatMap fun p => [.string p.1, .string p.2]

theorem payCells_app (a b : List (ByteArray × ByteArray)) : payCells (a ++ b) = payCells a ++ payCells b := by simp [payCells]
theorem payCells_len (a : List (ByteArray × ByteArray)) : (payCells a).length = a.length * 2 := by
  induction a with
  | nil => rfl
  | cons x t ih =>
    have : payCells (x :: t) = [.string x.1, .string x.2] ++ payCells t := by simp [payCells]
    rw [this, List.length_append, ih]; simp; omega

def headPays (b : Bool) : List (ByteArray × ByteArray) := if b then [(mgmt, ⟨#[]⟩), (cust, ⟨#[]⟩)] else []
/-- Of the first k classes, from i on, what each that pays adds. -/
def tailPays (c : Nat → ByteArray) (p : Nat → Bool) (k : Nat) : List (ByteArray × ByteArray) :=
  (List.range k).flatMap fun i => if p i then [(sales, c i)] else []
def kept (b : Bool) (c : Nat → ByteArray) (p : Nat → Bool) (k : Nat) : List (ByteArray × ByteArray) := headPays b ++ tailPays c p k

theorem tailPays_succ (c : Nat → ByteArray) (p : Nat → Bool) (k : Nat) : tailPays c p (k + 1) = tailPays c p k ++ (if p k then [(sales, c k)] else []) := by
  simp [tailPays, List.range_succ]
theorem kept_succ (b : Bool) (c : Nat → ByteArray) (p : Nat → Bool) (k : Nat) : kept b c p (k + 1) = kept b c p k ++ (if p k then [(sales, c k)] else []) := by
  simp [kept, tailPays_succ]
theorem tailPays_le (c : Nat → ByteArray) (p : Nat → Bool) (k : Nat) : (tailPays c p k).length ≤ k := by
  induction k with
  | zero => simp [tailPays]
  | succ k ih => rw [tailPays_succ]; split <;> simp <;> omega
theorem kept_le (b : Bool) (c : Nat → ByteArray) (p : Nat → Bool) (k : Nat) : (kept b c p k).length ≤ k + 2 := by
  have := tailPays_le c p k
  have : (headPays b).length ≤ 2 := by unfold headPays; split <;> simp
  simp [kept]; omega

end Go.Proofs.Qxb6628854a
