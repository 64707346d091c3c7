/-
  Seat b6628961a: the walk of FnWorkingMinutesCountsAndSplits (f3).
-/
import Derived.Test.Qxb6628961aDay
namespace Go.Proofs.Qxb6628961a
open Go.RowKit

theorem count_calls (ao bo : Option Addr) (n ca cb : Nat) (f t : Nat → Int) (a b : Int) (w : World) (hn : n ≤ 65536) (ha : IntRow w ao n f) (hb : IntRow w bo n t) (HW : Hid (WF f t n)) (h0 : 0 ≤ a) (h1 : b ≤ 1440) :
    Calls Try.prog 9 #[.slice ao n ca, .slice bo n cb, .int .i32 a, .int .i32 b] w fun e w' => e = .returned (.int .i64 (mins f t a b n)) ∧ w' = w := by
  have := count_any 1440 rfl ao bo n ca cb f t a b w hn ha hb HW
  rw [cnt_mins f t n HW.out a b h0 h1] at this
  exact this

set_option maxHeartbeats 2000000 in
set_option maxRecDepth 100000 in
theorem counts_walk (ao bo : Option Addr) (n m ca cb : Nat) (f t : Nat → Int) (lead a mid b : Int) (w : World) (ha : IntRow w ao n f) (hb : IntRow w bo m t) (hnm : n ≤ 9223372036854775807) (hmm : m ≤ 9223372036854775807) :
    Calls Try.prog 3 #[.slice ao n ca, .slice bo m cb, .int .i64 lead, .int .i32 a, .int .i32 mid, .int .i32 b] w fun e w' => e = .returned (.bool true) ∧ Below w.heap.size w w' := by
  go_enter Try.func3, Try.ntmps3
  go_wp2_with fail
  refine (bytes1_any ao bo n m ca cb lead a mid b w).mono ?_
  rintro e w' ⟨⟨bb, rfl⟩, hw⟩; subst w'
  cases bb with
  | false =>
    go_wp2
    go_ret
    exact ⟨rfl, Below.refl _ _⟩
  | true =>
  by_cases hn : n ≤ 65536
  case neg =>
    go_wp2
    go_ret
    exact ⟨rfl, Below.refl _ _⟩
  by_cases hm : m ≤ 65536
  case neg =>
    have z1 : decide (65536 < (n : Int)) = false := by simp; omega
    have z2 : decide (65536 < (m : Int)) = true := by simp; omega
    go_wp2
    go_ret
    exact ⟨rfl, Below.refl _ _⟩
  have z1 : decide (65536 < (n : Int)) = false := by simp; omega
  have z2 : decide (65536 < (m : Int)) = false := by simp; omega
  by_cases h4 : (1048576 : Int) < 4 * (n : Int) + 4 * (m : Int)
  case pos =>
    go_wp2
    go_ret
    exact ⟨rfl, Below.refl _ _⟩
  by_cases r1 : a < 0
  case pos =>
    go_wp2
    go_ret
    exact ⟨rfl, Below.refl _ _⟩
  have y1 : decide (a < 0) = false := by simpa using r1
  by_cases r2 : 1440 < a
  case pos =>
    go_wp2
    go_ret
    exact ⟨rfl, Below.refl _ _⟩
  have y2 : decide (1440 < a) = false := by simpa using r2
  by_cases r3 : b < 0
  case pos =>
    go_wp2
    go_ret
    exact ⟨rfl, Below.refl _ _⟩
  have y3 : decide (b < 0) = false := by simpa using r3
  by_cases r4 : 1440 < b
  case pos =>
    go_wp2
    go_ret
    exact ⟨rfl, Below.refl _ _⟩
  have y4 : decide (1440 < b) = false := by simpa using r4
  go_wp2_with fail
  refine (day_any ao bo n m ca cb f t w hn hm ha hb).mono ?_
  rintro e w' ⟨⟨bb, rfl, hday⟩, hw⟩; subst w'
  cases bb with
  | false =>
    go_wp2
    go_ret
    exact ⟨rfl, Below.refl _ _⟩
  | true =>
  obtain ⟨rfl, hwf⟩ := hday rfl
  have HW : Hid (WF f t n) := hwf
  clear hday hwf
  go_wp2_with fail
  refine (spans_any ao bo n ca cb f t w hn ha hb).mono ?_
  rintro e w1 ⟨g, rfl, hrow, hb1⟩
  have hrow1 : PairRow (w1.alloc (Obj.cells #[.map none, .slice (some ⟨g, 0, none⟩) n n, .int .i64 lead] 29)) (some ⟨g, 0, none⟩) n (fun i => .int .i32 (f i)) (fun i => .int .i32 (t i)) := hrow.below ((Below.refl _ _).alloc (Nat.le_refl _) _)
  have B1 : Below w.heap.size w (w1.alloc (Obj.cells #[.map none, .slice (some ⟨g, 0, none⟩) n n, .int .i64 lead] 29)) := hb1.alloc hb1.size _
  clear hrow
  go_wp2_with fail
  refine (work_any (some ⟨g, 0, none⟩) n n lead a b f t _ (by omega) r1 r4 hrow1).mono ?_
  rintro e w2 ⟨rfl, hb2⟩
  have c0 : w2.cell? ⟨w1.heap.size, 0, none⟩ = some (.map none) := (hb2.cell (by simp)).trans (by go_simp)
  have c1 : w2.cell? ⟨w1.heap.size, 1, none⟩ = some (.slice (some ⟨g, 0, none⟩) n n) := (hb2.cell (by simp)).trans (by go_simp)
  have c2 : w2.cell? ⟨w1.heap.size, 2, none⟩ = some (.int .i64 lead) := (hb2.cell (by simp)).trans (by go_simp)
  have hrow2 := hrow1.below hb2
  have B2 := B1.trans (hb2.mono B1.size)
  clear hrow1 B1 hb1 hb2
  have ha2 := ha.below B2
  have hb2' := hb.below B2
  go_wp2_with fail
  refine (count_calls ao bo n ca cb f t a b w2 hn ha2 hb2' HW r1 r4).mono ?_
  rintro e w' ⟨rfl, hw⟩; subst w'
  clear ha2 hb2'
  by_cases q1 : a ≤ mid
  case neg =>
    have x1 : decide (a ≤ mid) = false := by simpa using q1
    generalize mins f t a b n = mm
    go_wp2
    go_ret
    exact ⟨rfl, B2⟩
  by_cases q2 : mid ≤ b
  case neg =>
    have x2 : decide (mid ≤ b) = false := by simpa using q2
    generalize mins f t a b n = mm
    go_wp2
    go_ret
    exact ⟨rfl, B2⟩
  have hsp := mins_split f t a mid b q1 q2 n
  have e1 := mins_bd f t a mid r1 (by omega) n
  have e2 := mins_bd f t mid b (by omega) r4 n
  have e3 := mins_bd f t a b r1 r4 n
  generalize hm0 : mins f t a b n = m0 at hsp e3 ⊢
  clear hm0
  go_wp2_with fail
  refine (work_any (some ⟨g, 0, none⟩) n n lead a mid f t _ (by omega) r1 (by omega) hrow2).mono ?_
  rintro e w3 ⟨rfl, hb3⟩
  generalize hm1 : mins f t a mid n = m1 at hsp e1 ⊢
  clear hm1
  have d0 : w3.cell? ⟨w1.heap.size, 0, none⟩ = some (.map none) := (hb3.cell (World.block_lt_of_cell? _ _ c0)).trans c0
  have d1 : w3.cell? ⟨w1.heap.size, 1, none⟩ = some (.slice (some ⟨g, 0, none⟩) n n) := (hb3.cell (World.block_lt_of_cell? _ _ c1)).trans c1
  have d2 : w3.cell? ⟨w1.heap.size, 2, none⟩ = some (.int .i64 lead) := (hb3.cell (World.block_lt_of_cell? _ _ c2)).trans c2
  have hrow3 := hrow2.below hb3
  have B3 := B2.trans (hb3.mono B2.size)
  clear hrow2 B2 hb3 c0 c1 c2
  go_wp2_with fail
  refine (work_any (some ⟨g, 0, none⟩) n n lead mid b f t _ (by omega) (by omega) r4 hrow3).mono ?_
  rintro e w4 ⟨rfl, hb4⟩
  generalize hm2 : mins f t mid b n = m2 at hsp e2 ⊢
  clear hm2
  have B4 := B3.trans (hb4.mono B3.size)
  clear hrow3 B3 hb4 d0 d1 d2
  have HS : Hid (m1 + m2 = m0) := hsp
  clear hsp
  have v1 : (m1 + m2 == m0) = true := by simp [HS.out]
  go_wp2
  go_ret
  exact ⟨rfl, B4⟩
end Go.Proofs.Qxb6628961a
