/-
  Seat b6628961a: the walk of InstructionRules.WorkingMinutes (f8).
-/
import Derived.Test.Qxb6628961aRows
import Derived.WalkKit
import Derived.WalkSpells
import Derived.WalkLawsBesides
import Derived.WalkSmall
import Derived.RegionTactic
import Derived.Deep.QuietTactic
import Derived.BigQuiet
namespace Go.Proofs.Qxb6628961a
open Go.RowKit

/-- A slice's elements, two cells each. -/
def PairRow (w : World) (ao : Option Addr) (n : Nat) (f g : Nat → Value) : Prop :=
  ∀ i, i < n → ∃ b off, ao = some ⟨b, off, none⟩ ∧ b < w.heap.size ∧ w.cell? ⟨b, off + i * 2, none⟩ = some (f i) ∧ w.cell? ⟨b, off + i * 2 + 1, none⟩ = some (g i)

theorem PairRow.below {w w' : World} {ao : Option Addr} {n : Nat} {f g : Nat → Value} (h : PairRow w ao n f g) (hb : Below w.heap.size w w') : PairRow w' ao n f g := by
  intro i hi
  obtain ⟨b, off, e, hlt, h1, h2⟩ := h i hi
  exact ⟨b, off, e, Nat.lt_of_lt_of_le hlt hb.size, (hb.cell (p := ⟨b, off + i * 2, none⟩) hlt).trans h1, (hb.cell (p := ⟨b, off + i * 2 + 1, none⟩) hlt).trans h2⟩
theorem PairRow.take {w : World} {ao : Option Addr} {n : Nat} {f g : Nat → Value} (h : PairRow w ao n f g) (k : Nat) (hk : k ≤ n) : PairRow w ao k f g := fun i hi => h i (by omega)
theorem PairRow.cut {w : World} {ao bo : Option Addr} {n : Nat} {f g : Nat → Value} (h : PairRow w ao n f g) (k : Nat) (hk : k ≤ n) (hbo : ¬ n = k → bo = ao.map (·.add (k * 2))) :
    PairRow w bo (n - k) (fun i => f (k + i)) (fun i => g (k + i)) := by
  intro i hi
  obtain ⟨b, off, e, hlt, h1, h2⟩ := h (k + i) (by omega)
  refine ⟨b, off + k * 2, ?_, hlt, ?_, ?_⟩
  · rw [hbo (by omega), e]; simp [Addr.add_lit]
  · rw [← h1]; congr 2; omega
  · rw [← h2]; congr 2; omega

/-- The minutes of one span between a and b; the sum over the first k spans. -/
def lo (f a : Int) : Int := if f < a then a else f
def hi (t b : Int) : Int := if b < t then b else t
def one (f t a b : Int) : Int := if lo f a < hi t b then hi t b - lo f a else 0
def mins (f t : Nat → Int) (a b : Int) : Nat → Int
  | 0 => 0
  | k + 1 => mins f t a b k + one (f k) (t k) a b

theorem lo_ge (f a : Int) : a ≤ lo f a ∧ f ≤ lo f a := by unfold lo; split <;> omega
theorem hi_le (t b : Int) : hi t b ≤ b ∧ hi t b ≤ t := by unfold hi; split <;> omega
theorem one_bd (f t a b : Int) (ha : 0 ≤ a) (hb : b ≤ 1440) : 0 ≤ one f t a b ∧ one f t a b ≤ 1440 := by
  have h1 := lo_ge f a
  have h2 := hi_le t b
  unfold one; split <;> omega
theorem mins_bd (f t : Nat → Int) (a b : Int) (ha : 0 ≤ a) (hb : b ≤ 1440) (k : Nat) : 0 ≤ mins f t a b k ∧ mins f t a b k ≤ 1440 * (k : Int) := by
  induction k with
  | zero => exact ⟨Int.le_refl _, Int.le_refl _⟩
  | succ k ih =>
    have := one_bd (f k) (t k) a b ha hb
    simp only [mins]
    omega
theorem one_hit {f t a b L H : Int} (hL : L = lo f a) (hH : H = hi t b) (h : L < H) : one f t a b = H - L := by unfold one; rw [← hL, ← hH, if_pos h]
theorem one_miss {f t a b L H : Int} (hL : L = lo f a) (hH : H = hi t b) (h : ¬ L < H) : one f t a b = 0 := by unfold one; rw [← hL, ← hH, if_neg h]

set_option maxHeartbeats 1000000 in
theorem work_any (ao : Option Addr) (n cap : Nat) (lead a b : Int) (f t : Nat → Int) (w : World) (hn : n ≤ 65537) (ha0 : 0 ≤ a) (hb1 : b ≤ 1440)
    (hrow : PairRow w ao n (fun i => .int .i32 (f i)) (fun i => .int .i32 (t i))) :
    Calls Try.prog 8 #[.agg #[.map none, .slice ao n cap, .int .i64 lead], .int .i32 a, .int .i32 b] w fun e w' =>
      e = .returned (.int .i64 (mins f t a b n)) ∧ Below w.heap.size w w' := by
  go_enter Try.func8, Try.ntmps8
  go_wp2
  go_loopw [7, 15] (fun v i wr => ∃ k : Nat, k ≤ n ∧ i = .int .i64 k ∧ v = .int .i64 (mins f t a b k) ∧ Below w.heap.size w wr) (fun _ i _ => n - (intOf i).toNat)
  case atStart => exact ⟨0, Nat.zero_le _, rfl, rfl, (Below.refl _ _).alloc (Nat.le_refl _) _⟩
  case round =>
    obtain ⟨k, hk, rfl, rfl, hnx⟩ := hrel
    have hsz := hnx.size
    by_cases hlt : k < n
    · obtain ⟨bb, off, rfl, hbb, h1, h2⟩ := hrow k hlt
      have g1 : wr.cell? ⟨bb, off + k * 2, none⟩ = some (.int .i32 (f k)) := (hnx.cell (by exact hbb)).trans h1
      have g2 : wr.cell? ⟨bb, off + k * 2 + 1, none⟩ = some (.int .i32 (t k)) := (hnx.cell (by exact hbb)).trans h2
      clear h1 h2
      obtain ⟨m1, m2⟩ := mins_bd f t a b ha0 hb1 k
      go_wp2
      go_quiet (fail)
      generalize hL : (if f k < a then a else f k) = L
      generalize hH : (if b < t k then b else t k) = H
      have HL : Hid (L = lo (f k) a) := hL.symm
      have HH : Hid (H = hi (t k) b) := hH.symm
      have e1 : a ≤ L := by rw [HL.out]; exact (lo_ge _ _).1
      have e2 : H ≤ b := by rw [HH.out]; exact (hi_le _ _).1
      clear hL hH
      by_cases hc : L < H
      · have HM : Hid (mins f t a b (k + 1) = mins f t a b k + (H - L)) := by show _ = _; rw [mins, one_hit HL.out HH.out hc]
        go_wp2
        go_roundw
        case rel => exact ⟨k + 1, by omega, by go_num, by rw [HM.out], below_drewN (hnx.alloc hsz _) _⟩
        case measure => simp [intOf]; omega
      · have HM : Hid (mins f t a b (k + 1) = mins f t a b k) := by show _ = _; rw [mins, one_miss HL.out HH.out hc, Int.add_zero]
        go_wp2
        go_roundw
        case rel => exact ⟨k + 1, by omega, by go_num, by rw [HM.out], below_drewN (hnx.alloc hsz _) _⟩
        case measure => simp [intOf]; omega
    · obtain rfl : n = k := by omega
      go_wp2
      go_ret
      exact ⟨rfl, hnx⟩
end Go.Proofs.Qxb6628961a
