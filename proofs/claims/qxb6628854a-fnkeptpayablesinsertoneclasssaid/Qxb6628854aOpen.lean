/-
  Seat b6628854a: the two slices among the arguments, opened into what the walks ask.
-/
import Derived.Test.Qxb6628854aMake
import Derived.ProofKit
import Derived.OpenShut
import Derived.ShutString
import Derived.ChangeOld
import Derived.SliceStrings
import Derived.Deep.SlicePairs
namespace Go.Proofs.Qxb6628854a
open Go.ChangeShapes Go.WideShapes Go.ChangeAt Go.RowKit
open Go.Deep

theorem own : ownKnob Try.prog.godebug = none := by kernel_rfl
theorem laidOut : laidOutB Try.prog = true := by kernel_rfl

theorem addr_plain {w : World} {a : Addr} {n : Nat} {v : Value} (h0 : w.cell? (a.add 0) = some v) : a.add n = ⟨a.block, a.off + n, none⟩ ∧ a = ⟨a.block, a.off, none⟩ := by
  obtain ⟨b, off, spot⟩ := a
  have hspot : spot = none := by simpa [Addr.add] using World.cell?_spot h0
  subst hspot
  exact ⟨Addr.add_lit _ _ _, rfl⟩

theorem open_strRow {H : Type} {enc : TypeId × Value → H} {W : World} {a : Option Addr} {len cap : Nat} {d : DataW H} {p : List MemPlace}
    (h : DataW.Trod enc Try.prog W 0 (fun _ => true) true 22 (.slice a len cap) d p) : ∃ s, StrRow W a len s ∧ len ≤ 9223372036854775807 := by
  obtain ⟨fuel, hf⟩ := h
  rcases open_strings Try.underlying22 Try.underlying9 (by kernel_rfl) hf with ⟨hcs, _⟩ | ⟨x, l, c, ss, hcs, _, hl, hm, hz, _, hcell, _⟩
  · simp [Value.cells] at hcs
    obtain ⟨rfl, rfl, rfl⟩ := hcs
    exact ⟨fun _ => ⟨#[]⟩, fun i hi => by omega, by omega⟩
  · simp [Value.cells] at hcs
    obtain ⟨rfl, rfl, rfl⟩ := hcs
    refine ⟨fun i => ss.getD i ByteArray.empty, fun i hi => ?_, by unfold maxLen at hm; omega⟩
    simp at hz
    have e := addr_plain (n := i) (hcell 0 (by omega))
    refine ⟨x.block, x.off, by rw [← e.2], World.block_lt_of_cell? _ _ (hcell 0 (by omega)), ?_⟩
    rw [← e.1]; exact hcell i (by omega)

theorem open_clsRow {H : Type} {enc : TypeId × Value → H} {W : World} {a : Option Addr} {len cap : Nat} {d : DataW H} {p : List MemPlace}
    (h : DataW.Trod enc Try.prog W 0 (fun _ => true) true 23 (.slice a len cap) d p) : ∃ (c : Nat → ByteArray) (pp : Nat → Bool), PairRow W a len (fun i => .string (c i)) (fun i => .bool (pp i)) ∧ len ≤ 9223372036854775807 := by
  obtain ⟨fuel, hf⟩ := h
  rcases open_slice_pairs Try.underlying23 Try.underlying37 (by kernel_rfl) rfl rfl (by kernel_rfl) (by kernel_rfl) hf with ⟨hcs, _⟩ | ⟨x, l, c, m, n, V0, V1, D0, D1, P0, P1, hcs, _, hl, hm, hmm, _, hcell⟩
  · simp [Value.cells] at hcs
    obtain ⟨rfl, rfl, rfl⟩ := hcs
    exact ⟨fun _ => ⟨#[]⟩, fun _ => false, fun i hi => by omega, by omega⟩
  · simp [Value.cells] at hcs
    obtain ⟨rfl, rfl, rfl⟩ := hcs
    simp at hmm
    have h0 : ∀ i, i < len → ∃ s : ByteArray, V0 i = .string s := fun i hi => by
      obtain ⟨s, hs, _⟩ := DataW.trod_string Try.underlying9 (hcell i (by omega)).2.2.1
      exact ⟨s, by simpa using hs⟩
    have h1 : ∀ i, i < len → ∃ b : Bool, V1 i = .bool b := fun i hi => by
      obtain ⟨s, hs, _⟩ := DataW.trod_bool Try.underlying4 (hcell i (by omega)).2.2.2
      exact ⟨s, by simpa using hs⟩
    refine ⟨fun i => if hi : i < len then (h0 i hi).choose else ⟨#[]⟩, fun i => if hi : i < len then (h1 i hi).choose else false, fun i hi => ?_, by unfold maxLen at hm; omega⟩
    have hz := (hcell 0 (by omega)).1
    simp only [Nat.zero_mul] at hz
    have e := addr_plain (n := i * 2) hz
    have e' := addr_plain (n := i * 2 + 1) hz
    refine ⟨x.block, x.off, by rw [← e.2], World.block_lt_of_cell? _ _ hz, ?_, ?_⟩
    · rw [← e.1]; simp only [hi, dite_true]; rw [← (h0 i hi).choose_spec]; exact (hcell i (by omega)).1
    · rw [Nat.add_assoc, ← e'.1]; simp only [hi, dite_true]; rw [← (h1 i hi).choose_spec]; exact (hcell i (by omega)).2.1

end Go.Proofs.Qxb6628854a
