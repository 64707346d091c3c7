/-
  Seat b6628894a: the contract of Checkpoints.Latest (f5).
-/
import Derived.Test.Qxb6628894aRows
import Derived.WalkKit
import Derived.ProofKit
import Derived.OpenShut
import Derived.ShutString
import Derived.ChangeOld
namespace Go.Proofs.Qxb6628894a
open Go.RowKit

set_option maxHeartbeats 400000 in
theorem latest_zero (d t : Int) (w : World) :
    Calls Try.prog 5 #[.agg #[.int .u64 0, .int .u64 d], .int .u64 t] w fun e w' => e = .returned (.tuple #[.int .u64 0, .bool false]) ∧ Below w.heap.size w w' := by
  go_enter Try.func5, Try.ntmps5
  go_wp2
  go_ret2
  exact ⟨rfl, (Below.refl _ _).alloc (Nat.le_refl _) _⟩

set_option maxHeartbeats 400000 in
theorem latest_low (i d t : Int) (w : World) (hi : 0 < i) (h : t < d) :
    Calls Try.prog 5 #[.agg #[.int .u64 i, .int .u64 d], .int .u64 t] w fun e w' => e = .returned (.tuple #[.int .u64 0, .bool false]) ∧ Below w.heap.size w w' := by
  have hib : (i == 0) = false := by simp; omega
  go_enter Try.func5, Try.ntmps5
  go_wp2
  go_ret2
  exact ⟨rfl, (Below.refl _ _).alloc (Nat.le_refl _) _⟩

/-- The tip is deep enough for no checkpoint. -/
theorem latest_small (i d t : Int) (w : World) (hd : 0 ≤ d) (h : d ≤ t) (hs : t - d < i) (ht2 : t ≤ 18446744073709551615) :
    Calls Try.prog 5 #[.agg #[.int .u64 i, .int .u64 d], .int .u64 t] w fun e w' => e = .returned (.tuple #[.int .u64 0, .bool false]) ∧ Below w.heap.size w w' := by
  have hib : (i == 0) = false := by simp; omega
  have he : (t - d) % i = t - d := Int.emod_eq_of_lt (by omega) hs
  go_enter Try.func5, Try.ntmps5
  go_wp2
  go_ret2
  exact ⟨by simp, (Below.refl _ _).alloc (Nat.le_refl _) _⟩

/-- The tip is deep enough: the checkpoint is what is left of 'deep' when its rest by the interval is taken off. -/
theorem latest_big (i d t r : Int) (w : World) (hi : 0 < i) (hd : 0 ≤ d) (hs : i ≤ t - d) (hi2 : i ≤ 18446744073709551615) (ht2 : t ≤ 18446744073709551615) (he : (t - d) % i = r) :
    Calls Try.prog 5 #[.agg #[.int .u64 i, .int .u64 d], .int .u64 t] w fun e w' => e = .returned (.tuple #[.int .u64 (t - d - r), .bool true]) ∧ Below w.heap.size w w' := by
  have hib : (i == 0) = false := by simp; omega
  have hr0 : 0 ≤ r := by rw [← he]; exact Int.emod_nonneg _ (by omega)
  have hr1 : r < i := by rw [← he]; exact Int.emod_lt_of_pos _ hi
  have hr2 : r < t - d := by omega
  have hr3 : 0 < t - d - r := by omega
  go_enter Try.func5, Try.ntmps5
  go_wp2
  go_ret2
  exact ⟨by simp, (Below.refl _ _).alloc (Nat.le_refl _) _⟩

end Go.Proofs.Qxb6628894a
