/-
  Seat b6628961a: the walk of FnWorkingMinutesWithOffHoursFillTheInterval (f4).
-/
import Derived.Test.Qxb6628961aDay
namespace Go.Proofs.Qxb6628961a
open Go.RowKit

/-- 'hours[cut:]': one address, whether or not the cut stands at the end. -/
theorem cut_tail (co : Option Addr) (m k : Nat) (hk : k ≤ m) :
    ∃ bo, (∀ wx, (Instr.slice 25 (.slice co m m) (some (.int .i64 (k : Int))) none none).run Try.prog wx = .ok (.slice bo (m - k) (m - k)) wx) ∧ Hid (¬ m = k → bo = co.map (·.add (k * 2))) := by
  refine ⟨if m = k then co else co.map (·.add (k * 2)), fun wx => ?_, fun h => by rw [if_neg h]⟩
  obtain ⟨i0, hi, hz0, hz1, hz2⟩ := info_parts Try.info35
  have he : Try.prog.elem 25 = 35 := by kernel_rfl
  rw [run_slice_l wx 25 co m m (by rw [he]; exact Try.underlying25) .i64 (k : Int) (by omega) (by omega)]
  simp [he, sizeOf, typeInfo, hi, hz1, sliced]

set_option maxHeartbeats 2000000 in
set_option maxRecDepth 100000 in
theorem fill_walk (ao bo : Option Addr) (n m ca cb : Nat) (f t : Nat → Int) (lead cut a b : Int) (w : World) (ha : IntRow w ao n f) (hb : IntRow w bo m t) (hnm : n ≤ 9223372036854775807) (hmm : m ≤ 9223372036854775807) :
    Calls Try.prog 4 #[.slice ao n ca, .slice bo m cb, .int .i64 lead, .int .i64 cut, .int .i32 a, .int .i32 b] w fun e w' => e = .returned (.bool true) ∧ Below w.heap.size w w' := by
  go_enter Try.func4, Try.ntmps4
  go_wp2_with fail
  refine (bytes2_any ao bo n m ca cb lead cut a b w).mono ?_
  rintro e w' ⟨⟨bb, rfl⟩, hw⟩; subst w'
  cases bb with
  | false =>
    go_wp2
    go_ret
    exact ⟨rfl, Below.refl _ _⟩
  | true =>
  by_cases hn : n ≤ 65536
  case neg =>
    go_wp2
    go_ret
    exact ⟨rfl, Below.refl _ _⟩
  by_cases hm : m ≤ 65536
  case neg =>
    have z1 : decide (65536 < (n : Int)) = false := by simp; omega
    have z2 : decide (65536 < (m : Int)) = true := by simp; omega
    go_wp2
    go_ret
    exact ⟨rfl, Below.refl _ _⟩
  have z1 : decide (65536 < (n : Int)) = false := by simp; omega
  have z2 : decide (65536 < (m : Int)) = false := by simp; omega
  by_cases h4 : (1048576 : Int) < 4 * (n : Int) + 4 * (m : Int)
  case pos =>
    go_wp2
    go_ret
    exact ⟨rfl, Below.refl _ _⟩
  by_cases r1 : a < 0
  case pos =>
    go_wp2
    go_ret
    exact ⟨rfl, Below.refl _ _⟩
  have y1 : decide (a < 0) = false := by simpa using r1
  by_cases r2 : 1440 < a
  case pos =>
    go_wp2
    go_ret
    exact ⟨rfl, Below.refl _ _⟩
  have y2 : decide (1440 < a) = false := by simpa using r2
  by_cases r3 : b < 0
  case pos =>
    go_wp2
    go_ret
    exact ⟨rfl, Below.refl _ _⟩
  have y3 : decide (b < 0) = false := by simpa using r3
  by_cases r4 : 1440 < b
  case pos =>
    go_wp2
    go_ret
    exact ⟨rfl, Below.refl _ _⟩
  have y4 : decide (1440 < b) = false := by simpa using r4
  go_wp2_with fail
  refine (day_any ao bo n m ca cb f t w hn hm ha hb).mono ?_
  rintro e w' ⟨⟨bb, rfl, hday⟩, hw⟩; subst w'
  cases bb with
  | false =>
    go_wp2
    go_ret
    exact ⟨rfl, Below.refl _ _⟩
  | true =>
  obtain ⟨rfl, hwf⟩ := hday rfl
  have HW : Hid (WF f t n) := hwf
  clear hday hwf
  go_wp2_with fail
  refine (spans_any ao bo n ca cb f t w hn ha hb).mono ?_
  rintro e w1 ⟨g, rfl, hrow, hb1⟩
  go_wp2_with fail
  refine (gaps_any ao bo n ca cb f t w1 hn (ha.below hb1) (hb.below hb1)).mono ?_
  rintro e w2 ⟨g', rfl, hgap, hb2⟩
  have hrow2 := hrow.below hb2
  have B2 := hb1.trans (hb2.mono hb1.size)
  clear hrow hb1 hb2 ha hb
  have A2 : Below w2.heap.size w2 ((w2.alloc (Obj.cells #[.map none, .slice (some ⟨g, 0, none⟩) n n, .int .i64 lead] 29)).alloc (Obj.cells #[.map none, .slice (some ⟨g', 0, none⟩) (n + 1) (n + 1), .int .i64 lead] 29)) := ((Below.refl _ _).alloc (Nat.le_refl _) _).alloc (by simp) _
  have hrow3 := hrow2.below A2
  have hgap3 := hgap.below A2
  have B3 := B2.trans (A2.mono B2.size)
  clear hrow2 hgap B2 A2
  go_wp2_with fail
  refine (work_any (some ⟨g, 0, none⟩) n n lead a b f t _ (by omega) r1 r4 hrow3).mono ?_
  rintro e w3 ⟨rfl, hb3⟩
  have c0 : w3.cell? ⟨w2.heap.size + 1, 0, none⟩ = some (.map none) := (hb3.cell (by simp)).trans (by go_simp)
  have c1 : w3.cell? ⟨w2.heap.size + 1, 1, none⟩ = some (.slice (some ⟨g', 0, none⟩) (n + 1) (n + 1)) := (hb3.cell (by simp)).trans (by go_simp)
  have c2 : w3.cell? ⟨w2.heap.size + 1, 2, none⟩ = some (.int .i64 lead) := (hb3.cell (by simp)).trans (by go_simp)
  have hrow4 := hrow3.below hb3
  have hgap4 := hgap3.below hb3
  have B4 := B3.trans (hb3.mono B3.size)
  clear hrow3 hgap3 B3 hb3
  go_wp2_with fail
  refine (work_any (some ⟨g', 0, none⟩) (n + 1) (n + 1) lead a b (prv t) (gapT f n) _ (by omega) r1 r4 hgap4).mono ?_
  rintro e w4 ⟨rfl, hb4⟩
  have hrow5 := hrow4.below hb4
  have B5 := B4.trans (hb4.mono B4.size)
  clear hrow4 hgap4 B4 hb4 c0 c1 c2
  have hall := gaps_all f t n HW.out a b r1 r4
  have e1 := mins_bd f t a b r1 r4 n
  have e2 := mins_bd (prv t) (gapT f n) a b r1 r4 (n + 1)
  generalize mins (prv t) (gapT f n) a b (n + 1) = mg at hall e2 ⊢
  generalize hmh : mins f t a b n = mh at hall e1 ⊢
  have HMH : Hid (mins f t a b n = mh) := hmh
  clear hmh
  by_cases q1 : 0 ≤ cut ∧ cut ≤ (n : Int)
  case neg =>
    by_cases hab : a < b
    · rw [if_pos hab] at hall
      have HS : Hid (mh + mg = b - a) := hall
      clear hall
      have v1 : (mh + mg == b - a) = true := by simp [HS.out]
      by_cases q2 : 0 ≤ cut
      · have x2 : decide (cut ≤ (n : Int)) = false := by simp; omega
        go_wp2
        go_ret
        exact ⟨rfl, B5⟩
      · have x1 : decide (0 ≤ cut) = false := by simpa using q2
        go_wp2
        go_ret
        exact ⟨rfl, B5⟩
    · rw [if_neg hab] at hall
      have HS : Hid (mh + mg = 0) := hall
      clear hall
      have v1 : (mh + mg == 0) = true := by simp [HS.out]
      by_cases q2 : 0 ≤ cut
      · have x2 : decide (cut ≤ (n : Int)) = false := by simp; omega
        go_wp2
        go_ret
        exact ⟨rfl, B5⟩
      · have x1 : decide (0 ≤ cut) = false := by simpa using q2
        go_wp2
        go_ret
        exact ⟨rfl, B5⟩
  obtain ⟨k, rfl⟩ := Int.eq_ofNat_of_zero_le q1.1
  have hkn : k ≤ n := by omega
  clear q1
  obtain ⟨bo5, hsl, hbo⟩ := cut_tail (some ⟨g, 0, none⟩) n k hkn
  have hadd := mins_add f t a b k (n - k)
  rw [show k + (n - k) = n from by omega, HMH.out] at hadd
  have e3 := mins_bd f t a b r1 r4 k
  have e4 := mins_bd (fun i => f (k + i)) (fun i => t (k + i)) a b r1 r4 (n - k)
  clear HMH
  have HADD : Hid (mh = mins f t a b k + mins (fun i => f (k + i)) (fun i => t (k + i)) a b (n - k)) := hadd
  clear hadd
  by_cases hab : a < b
  all_goals
    first
    | rw [if_pos hab] at hall
    | rw [if_neg hab] at hall
    have HS : Hid _ := hall
    clear hall
    have v1 := beq_iff_eq.2 HS.out
    have A5 : Below w4.heap.size w4 ((w4.alloc (Obj.cells #[.map none, .slice (some ⟨g, 0, none⟩) k n, .int .i64 lead] 29)).alloc (Obj.cells #[.map none, .slice bo5 (n - k) (n - k), .int .i64 lead] 29)) := ((Below.refl _ _).alloc (Nat.le_refl _) _).alloc (by simp) _
    have hrow6 := hrow5.below A5
    have B6 := B5.trans (A5.mono B5.size)
    clear hrow5 B5 A5
    go_wp2_with fail
    refine (work_any (some ⟨g, 0, none⟩) k n lead a b f t _ (by omega) r1 r4 (hrow6.take k hkn)).mono ?_
    rintro e w5 ⟨rfl, hb5⟩
    have c0 : w5.cell? ⟨w4.heap.size + 1, 0, none⟩ = some (.map none) := (hb5.cell (by simp)).trans (by go_simp)
    have c1 : w5.cell? ⟨w4.heap.size + 1, 1, none⟩ = some (.slice bo5 (n - k) (n - k)) := (hb5.cell (by simp)).trans (by go_simp)
    have c2 : w5.cell? ⟨w4.heap.size + 1, 2, none⟩ = some (.int .i64 lead) := (hb5.cell (by simp)).trans (by go_simp)
    have hrow7 := hrow6.below hb5
    have B7 := B6.trans (hb5.mono B6.size)
    clear hrow6 B6 hb5 hsl
    go_wp2_with fail
    refine (work_any bo5 (n - k) (n - k) lead a b (fun i => f (k + i)) (fun i => t (k + i)) _ (by omega) r1 r4 (hrow7.cut k hkn hbo.out)).mono ?_
    rintro e w6 ⟨rfl, hb6⟩
    have B8 := B7.trans (hb6.mono B7.size)
    clear hrow7 B7 hb6 c0 c1 c2 hbo
    generalize mins f t a b k = m1 at HADD e3 ⊢
    generalize mins (fun i => f (k + i)) (fun i => t (k + i)) a b (n - k) = m2 at HADD e4 ⊢
    have v2 : (m1 + m2 == mh) = true := by simp [HADD.out]
    go_wp2
    go_ret
    exact ⟨rfl, B8⟩
end Go.Proofs.Qxb6628961a
