/-
  Seat b6628961a: the walks of zzBuildSpans (f7) and zzBuildGaps (f11).
-/
import Derived.Test.Qxb6628961aPlain
namespace Go.Proofs.Qxb6628961a
open Go.RowKit

/-- A slice of int32. -/
def IntRow (w : World) (ao : Option Addr) (n : Nat) (f : Nat → Int) : Prop :=
  ∀ i, i < n → ∃ b off, ao = some ⟨b, off, none⟩ ∧ b < w.heap.size ∧ w.cell? ⟨b, off + i, none⟩ = some (.int .i32 (f i))
theorem IntRow.below {w w' : World} {ao : Option Addr} {n : Nat} {f : Nat → Int} (h : IntRow w ao n f) (hb : Below w.heap.size w w') : IntRow w' ao n f := by
  intro i hi
  obtain ⟨b, off, e, hlt, h1⟩ := h i hi
  exact ⟨b, off, e, Nat.lt_of_lt_of_le hlt hb.size, (hb.cell (p := ⟨b, off + i, none⟩) hlt).trans h1⟩

theorem Try.info35 : (Try.prog.info? 35).map (fun i => (i.zero, i.size, i.bytes)) = some (some (.agg #[.int .i32 0, .int .i32 0]), 2, 8) := by kernel_rfl

/-- What the first k spans' cells hold. -/
def SpTo (xs : List Value) (k : Nat) (f t : Nat → Int) : Prop := ∀ i, i < k → xs[i * 2]? = some (.int .i32 (f i)) ∧ xs[i * 2 + 1]? = some (.int .i32 (t i))
theorem spTo_step {xs : List Value} {n k : Nat} {f t : Nat → Int} (h : SpTo xs k f t) (hl : xs.length = n * 2) (hk : k < n) {x y : Int} (hx : x = f k) (hy : y = t k) : SpTo ((xs.set (k * 2) (.int .i32 x)).set (k * 2 + 1) (.int .i32 y)) (k + 1) f t := by
  intro i hi
  by_cases e : i = k
  · subst e
    rw [List.getElem?_set_ne (by omega), List.getElem?_set_self (by omega), List.getElem?_set_self (by rw [List.length_set]; omega), hx, hy]
    exact ⟨rfl, rfl⟩
  · rw [List.getElem?_set_ne (by omega), List.getElem?_set_ne (by omega), List.getElem?_set_ne (by omega), List.getElem?_set_ne (by omega)]
    exact h i (by omega)
theorem spTo_row {w : World} {B g n : Nat} {xs : List Value} {f t : Nat → Int} (h : SpTo xs n f t) (hown : w.ownsRow B 35 2 (.slice (some ⟨g, 0, none⟩) n n) n xs) :
    PairRow w (some ⟨g, 0, none⟩) n (fun i => .int .i32 (f i)) (fun i => .int .i32 (t i)) := by
  intro i hi
  refine ⟨g, 0, rfl, (hown.lt g rfl).2, ?_, ?_⟩
  · have := hown.cellAt (i * 2) (by omega)
    rw [(h i hi).1] at this
    simpa using this
  · have := hown.cellAt (i * 2 + 1) (by omega)
    rw [(h i hi).2] at this
    simpa using this
theorem owns_cell {w : World} {B e size g n cap : Nat} {xs : List Value} (h : w.ownsRow B e size (.slice (some ⟨g, 0, none⟩) n cap) n xs) (j : Nat) (hj : j < n * size) : ∃ u, w.cell? ⟨g, j, none⟩ = some u := by
  have hl := h.1
  exact ⟨xs[j]'(by omega), by rw [h.cellAt j hj, List.getElem?_eq_getElem (by omega)]⟩

set_option maxHeartbeats 1000000 in
theorem spans_any (ao bo : Option Addr) (n ca cb : Nat) (f t : Nat → Int) (w : World) (hn : n ≤ 65536) (ha : IntRow w ao n f) (hb : IntRow w bo n t) :
    Calls Try.prog 7 #[.slice ao n ca, .slice bo n cb] w fun e w' => ∃ g, e = .returned (.slice (some ⟨g, 0, none⟩) n n) ∧ PairRow w' (some ⟨g, 0, none⟩) n (fun i => .int .i32 (f i)) (fun i => .int .i32 (t i)) ∧ Below w.heap.size w w' := by
  obtain ⟨i0, hi, hz0, hz1, hz2⟩ := info_parts Try.info35
  go_enter Try.func7, Try.ntmps7
  go_wp2_with (at_make; refine wpList_make_full _ rfl _ _ 25 rfl w.heap.size 35 i0 (.agg #[.int .i32 0, .int .i32 0]) 2 Try.underlying25 hi hz0 hz1 _ _ _ _ n rfl rfl rfl rfl (by rw [hz2]; omega) (by unfold maxLen; omega) (Nat.le_refl _) ?_; intro w0 hown0 hgrow0)
  have S0 : Below w.heap.size w w0 := (Below.refl _ _).grown hgrow0 (Nat.le_refl _) (fun j hj => by cases hj)
  clear hgrow0
  go_loopw [6] (fun i wr => ∃ (k : Nat) (xs : List Value), k ≤ n ∧ i = .int .i64 k ∧ wr.ownsRow w.heap.size 35 2 (.slice (some ⟨w.heap.size, 0, none⟩) n n) n xs ∧ SpTo xs k f t ∧ Below w.heap.size w wr)
    (fun i _ => n - (intOf i).toNat)
  case atStart => exact ⟨0, _, Nat.zero_le _, rfl, hown0, fun i hi => by omega, S0⟩
  case round =>
    clear hown0 S0
    obtain ⟨k, xs, hk, rfl, hown, hcls, hnx⟩ := hrel
    have hsz := hnx.size
    have HLen : Hid (xs.length = n * 2) := hown.1
    by_cases hlt : k < n
    · obtain ⟨b, off, rfl, hbb, h1⟩ := ha k hlt
      obtain ⟨b', off', rfl, hbb', h2⟩ := hb k hlt
      have g1 : wr.cell? ⟨b, off + k, none⟩ = some (.int .i32 (f k)) := (hnx.cell (by exact hbb)).trans h1
      have g2 : wr.cell? ⟨b', off' + k, none⟩ = some (.int .i32 (t k)) := (hnx.cell (by exact hbb')).trans h2
      obtain ⟨u, g3⟩ := owns_cell hown (k * 2) (by omega)
      obtain ⟨u', g3'⟩ := owns_cell hown (k * 2 + 1) (by omega)
      have g4 := hown.frozenAt (k * 2)
      have g5 := hown.frozenAt (k * 2 + 1)
      clear h1 h2
      have R := ((hown.stored (k * 2) (.int .i32 (f k))).1.stored (k * 2 + 1) (.int .i32 (t k))).1
      have C := spTo_step hcls HLen.out hlt rfl rfl
      have S : Below w.heap.size w ((wr.setCell ⟨w.heap.size, k * 2, none⟩ (.int .i32 (f k))).setCell ⟨w.heap.size, k * 2 + 1, none⟩ (.int .i32 (t k))) := (hnx.setCell (p := ⟨w.heap.size, k * 2, none⟩) (Nat.le_refl _) _).setCell (p := ⟨w.heap.size, k * 2 + 1, none⟩) (Nat.le_refl _) _
      clear hown
      go_wp2
      go_region
      go_wp2
      go_roundw
      case rel => exact ⟨k + 1, _, by omega, by go_num, R.drew, C, S.drew⟩
      case measure => simp [intOf]; omega
    · obtain rfl : n = k := by omega
      have R := spTo_row hcls hown
      go_wp2
      go_ret
      exact ⟨_, rfl, R, hnx⟩
set_option maxHeartbeats 1000000 in
theorem gaps_any (ao bo : Option Addr) (n ca cb : Nat) (f t : Nat → Int) (w : World) (hn : n ≤ 65536) (ha : IntRow w ao n f) (hb : IntRow w bo n t) :
    Calls Try.prog 11 #[.slice ao n ca, .slice bo n cb] w fun e w' => ∃ g, e = .returned (.slice (some ⟨g, 0, none⟩) (n + 1) (n + 1)) ∧ PairRow w' (some ⟨g, 0, none⟩) (n + 1) (fun i => .int .i32 (prv t i)) (fun i => .int .i32 (gapT f n i)) ∧ Below w.heap.size w w' := by
  obtain ⟨i0, hi, hz0, hz1, hz2⟩ := info_parts Try.info35
  go_enter Try.func11, Try.ntmps11
  go_wp2_with (at_make; refine wpList_make_full _ rfl _ _ 25 rfl w.heap.size 35 i0 (.agg #[.int .i32 0, .int .i32 0]) 2 Try.underlying25 hi hz0 hz1 _ _ _ _ (n + 1) rfl rfl (by omega) (by omega) (by rw [hz2]; omega) (by unfold maxLen; omega) (Nat.le_refl _) ?_; intro w0 hown0 hgrow0)
  have S0 : Below w.heap.size w w0 := (Below.refl _ _).grown hgrow0 (Nat.le_refl _) (fun j hj => by cases hj)
  clear hgrow0
  go_loopw [6, 7] (fun pv i wr => ∃ (k : Nat) (xs : List Value), k ≤ n ∧ i = .int .i64 k ∧ pv = .int .i32 (prv t k) ∧ wr.ownsRow w.heap.size 35 2 (.slice (some ⟨w.heap.size, 0, none⟩) (n + 1) (n + 1)) (n + 1) xs ∧ SpTo xs k (prv t) (gapT f n) ∧ Below w.heap.size w wr)
    (fun _ i _ => n - (intOf i).toNat)
  case atStart => exact ⟨0, _, Nat.zero_le _, rfl, rfl, hown0, fun i hi => by omega, S0⟩
  case round =>
    clear hown0 S0
    obtain ⟨k, xs, hk, rfl, rfl, hown, hcls, hnx⟩ := hrel
    have hsz := hnx.size
    have HLen : Hid (xs.length = (n + 1) * 2) := hown.1
    obtain ⟨u, g3⟩ := owns_cell hown (k * 2) (by omega)
    obtain ⟨u', g3'⟩ := owns_cell hown (k * 2 + 1) (by omega)
    have g4 := hown.frozenAt (k * 2)
    have g5 := hown.frozenAt (k * 2 + 1)
    have hnb := hown.lt w.heap.size rfl
    by_cases hlt : k < n
    · obtain ⟨b, off, rfl, hbb, h1⟩ := ha k hlt
      obtain ⟨b', off', rfl, hbb', h2⟩ := hb k hlt
      have g1 : wr.cell? ⟨b, off + k, none⟩ = some (.int .i32 (f k)) := (hnx.cell (by exact hbb)).trans h1
      have g2 : wr.cell? ⟨b', off' + k, none⟩ = some (.int .i32 (t k)) := (hnx.cell (by exact hbb')).trans h2
      have R := ((hown.stored (k * 2) (.int .i32 (prv t k))).1.stored (k * 2 + 1) (.int .i32 (f k))).1
      have C := spTo_step (x := prv t k) (y := f k) hcls HLen.out (by omega) rfl (by unfold gapT; rw [if_pos hlt])
      have S : Below w.heap.size w ((wr.setCell ⟨w.heap.size, k * 2, none⟩ (.int .i32 (prv t k))).setCell ⟨w.heap.size, k * 2 + 1, none⟩ (.int .i32 (f k))) := (hnx.setCell (p := ⟨w.heap.size, k * 2, none⟩) (Nat.le_refl _) _).setCell (p := ⟨w.heap.size, k * 2 + 1, none⟩) (Nat.le_refl _) _
      have hne : b' ≠ w.heap.size := by omega
      clear h1 h2 hown
      go_wp2
      go_roundw
      case rel => exact ⟨k + 1, _, by omega, by go_num, rfl, R, C, S⟩
      case measure => simp [intOf]; omega
    · obtain rfl : n = k := by omega
      have R := ((hown.stored (n * 2) (.int .i32 (prv t n))).1.stored (n * 2 + 1) (.int .i32 1440)).1
      have C := spTo_step (x := prv t n) (y := 1440) hcls HLen.out (by omega) rfl (by unfold gapT; rw [if_neg (by omega)])
      have S : Below w.heap.size w ((wr.setCell ⟨w.heap.size, n * 2, none⟩ (.int .i32 (prv t n))).setCell ⟨w.heap.size, n * 2 + 1, none⟩ (.int .i32 1440)) := (hnx.setCell (p := ⟨w.heap.size, n * 2, none⟩) (Nat.le_refl _) _).setCell (p := ⟨w.heap.size, n * 2 + 1, none⟩) (Nat.le_refl _) _
      have R2 := spTo_row C R
      clear hown R C
      go_wp2
      go_ret
      exact ⟨_, rfl, R2, S⟩
end Go.Proofs.Qxb6628961a
