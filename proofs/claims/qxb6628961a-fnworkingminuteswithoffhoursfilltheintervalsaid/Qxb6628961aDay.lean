/-
  Seat b6628961a: the walks of zzBytes (f5, f10), zzWellFormedDay (f6) and zzCountMinutes (f9).
-/
import Derived.Test.Qxb6628961aBuild
namespace Go.Proofs.Qxb6628961a
open Go.RowKit

def SomeBool (e : Ending) : Prop := ∃ b, e = .returned (.bool b)
set_option maxHeartbeats 400000 in
theorem bytes1_any (ao bo : Option Addr) (n m ca cb : Nat) (l x y z : Int) (w : World) : Calls Try.prog 5 #[.slice ao n ca, .slice bo m cb, .int .i64 l, .int .i32 x, .int .i32 y, .int .i32 z] w fun e w' => SomeBool e ∧ w' = w := by
  go_enter Try.func5, Try.ntmps5
  go_wp2
  all_goals (go_ret; exact ⟨⟨_, rfl⟩, rfl⟩)
set_option maxHeartbeats 400000 in
theorem bytes2_any (ao bo : Option Addr) (n m ca cb : Nat) (l c y z : Int) (w : World) : Calls Try.prog 10 #[.slice ao n ca, .slice bo m cb, .int .i64 l, .int .i64 c, .int .i32 y, .int .i32 z] w fun e w' => SomeBool e ∧ w' = w := by
  go_enter Try.func10, Try.ntmps10
  go_wp2
  all_goals (go_ret; exact ⟨⟨_, rfl⟩, rfl⟩)

/-- The answer of zzWellFormedDay: where it is yes, the spans are in order. -/
def DayAns (f t : Nat → Int) (n m : Nat) (e : Ending) : Prop := ∃ b, e = .returned (.bool b) ∧ (b = true → n = m ∧ WF f t n)
theorem day_no {f t : Nat → Int} {n m : Nat} : DayAns f t n m (.returned (.bool false)) := ⟨false, rfl, fun h => by cases h⟩

set_option maxHeartbeats 1000000 in
theorem day_any (ao bo : Option Addr) (n m ca cb : Nat) (f t : Nat → Int) (w : World) (hn : n ≤ 65536) (hm : m ≤ 65536) (ha : IntRow w ao n f) (hb : IntRow w bo m t) :
    Calls Try.prog 6 #[.slice ao n ca, .slice bo m cb] w fun e w' => DayAns f t n m e ∧ w' = w := by
  by_cases hnm : n = m
  case neg =>
    have hx : ((n : Int) == (m : Int)) = false := by simp; omega
    go_enter Try.func6, Try.ntmps6
    go_wp2
    go_ret
    exact ⟨day_no, rfl⟩
  subst hnm
  go_enter Try.func6, Try.ntmps6
  go_wp2
  go_loop [5, 6] (fun pv i => ∃ k : Nat, k ≤ n ∧ i = .int .i64 k ∧ pv = .int .i32 (prv t k) ∧ Hid (WF f t k)) (fun _ i => n - (intOf i).toNat)
  case atStart => exact ⟨0, Nat.zero_le _, rfl, rfl, fun i hi => by omega⟩
  case round =>
    obtain ⟨k, hk, rfl, rfl, hwf⟩ := hrel
    by_cases hlt : k < n
    · obtain ⟨b, off, rfl, _, h1⟩ := ha k hlt
      obtain ⟨b', off', rfl, _, h2⟩ := hb k hlt
      generalize hp : prv t k = pv
      have HP : Hid (prv t k = pv) := hp
      clear hp
      generalize hF : f k = F at h1
      generalize hT : t k = T at h2
      have HF : Hid (f k = F) := hF
      have HT : Hid (t k = T) := hT
      clear hF hT
      by_cases c1 : F < pv
      · go_wp2
        go_ret
        exact ⟨day_no, rfl⟩
      have d1 : decide (F < pv) = false := by simpa using c1
      by_cases c2 : T < F
      · go_wp2
        go_ret
        exact ⟨day_no, rfl⟩
      have d2 : decide (T < F) = false := by simpa using c2
      by_cases c3 : 1440 < T
      · go_wp2
        go_ret
        exact ⟨day_no, rfl⟩
      have d3 : decide (1440 < T) = false := by simpa using c3
      have HW : Hid (WF f t (k + 1)) := hwf.out.step (by rw [HP.out, HF.out]; omega) (by rw [HF.out, HT.out]; omega) (by rw [HT.out]; omega)
      have HT2 : Hid (prv t (k + 1) = T) := HT
      go_wp2
      go_round
      case rel => exact ⟨k + 1, by omega, by go_num, by rw [HT2.out], HW⟩
      case measure => simp [intOf]; omega
    · obtain rfl : n = k := by omega
      go_wp2
      go_ret
      exact ⟨⟨true, rfl, fun _ => ⟨rfl, hwf.out⟩⟩, rfl⟩

theorem tick_yes (f t : Nat → Int) (n j : Nat) (a b m : Int) (hj : j < n) (h1 : a ≤ m) (h2 : m < b) (h3 : f j ≤ m) (h4 : m < t j) : tick f t n a b m = 1 := by
  unfold tick
  rw [if_pos ⟨h1, h2, (inSpan_spec f t m n).2 ⟨j, hj, h3, h4⟩⟩]
theorem tick_no1 (f t : Nat → Int) (n : Nat) (a b m : Int) (h : ¬ (a ≤ m ∧ m < b)) : tick f t n a b m = 0 := by
  unfold tick
  rw [if_neg (fun h' => h ⟨h'.1, h'.2.1⟩)]
theorem tick_no2 (f t : Nat → Int) (n j : Nat) (a b m : Int) (hw : WF f t n) (hb : ∀ i, i < j → t i ≤ m) (h : j < n → m < f j) : tick f t n a b m = 0 := by
  unfold tick
  rw [if_neg]
  rintro ⟨_, _, h3⟩
  obtain ⟨i, hi, h4, h5⟩ := (inSpan_spec f t m n).1 h3
  by_cases e : i < j
  · have := hb i e; omega
  · have h6 := h (by omega)
    by_cases e2 : i = j
    · subst e2; omega
    · have h7 := hw.apart i j hi (by omega)
      have h8 := (hw j (by omega)).2.1
      omega

set_option maxHeartbeats 2000000 in
set_option maxRecDepth 100000 in
theorem count_any (D : Nat) (HD : Hid (D = 1440)) (ao bo : Option Addr) (n ca cb : Nat) (f t : Nat → Int) (a b : Int) (w : World) (hn : n ≤ 65536) (ha : IntRow w ao n f) (hb : IntRow w bo n t) (HW : Hid (WF f t n)) :
    Calls Try.prog 9 #[.slice ao n ca, .slice bo n cb, .int .i32 a, .int .i32 b] w fun e w' => e = .returned (.int .i64 (cnt f t n a b D)) ∧ w' = w := by
  go_enter Try.func9, Try.ntmps9
  go_wp2
  go_loop [9, 10, 11] (fun c jv mv => ∃ M j : Nat, M ≤ 1440 ∧ mv = .int .i32 M ∧ c = .int .i64 (cnt f t n a b M) ∧ j ≤ n ∧ jv = .int .i64 j ∧ Hid (∀ i, i < j → t i ≤ (M : Int))) (fun _ _ mv => 1440 - (intOf mv).toNat)
  case atStart => exact ⟨0, 0, by omega, rfl, rfl, Nat.zero_le _, rfl, fun i hi => by omega⟩
  case round =>
    obtain ⟨M, j0, hM, rfl, rfl, hj0, rfl, HJ0⟩ := hrel
    obtain ⟨c1, c2⟩ := cnt_bd f t n a b M
    by_cases hlt : M < 1440
    · go_wp2
      go_loop [10] (fun jv => ∃ j : Nat, j ≤ n ∧ jv = .int .i64 j ∧ Hid (∀ i, i < j → t i ≤ (M : Int))) (fun jv => n - (intOf jv).toNat)
      case atStart => exact ⟨j0, hj0, rfl, HJ0⟩
      case round =>
        obtain ⟨j, hj, rfl, HJ⟩ := hrel
        by_cases hjn : j < n
        case neg =>
          obtain rfl : n = j := by omega
          have HT : Hid (cnt f t n a b (M + 1) = cnt f t n a b M) := by
            show _ = _; rw [cnt, tick_no2 f t n n a b M HW.out HJ.out (fun h => by omega), Int.add_zero]
          have HJ2 : Hid (∀ i, i < n → t i ≤ ((M + 1 : Nat) : Int)) := fun i hi => by have := HJ.out i hi; omega
          by_cases r1 : a ≤ (M : Int)
          case neg =>
            have q1 : decide (a ≤ (M : Int)) = false := by simpa using r1
            go_wp2
            go_round
            case rel => exact ⟨M + 1, n, by omega, by go_num, by rw [HT.out], Nat.le_refl _, rfl, HJ2⟩
            case measure => simp [intOf]; omega
          by_cases r2 : (M : Int) < b
          case neg =>
            have q2 : decide ((M : Int) < b) = false := by simpa using r2
            go_wp2
            go_round
            case rel => exact ⟨M + 1, n, by omega, by go_num, by rw [HT.out], Nat.le_refl _, rfl, HJ2⟩
            case measure => simp [intOf]; omega
          go_wp2
          go_round
          case rel => exact ⟨M + 1, n, by omega, by go_num, by rw [HT.out], Nat.le_refl _, rfl, HJ2⟩
          case measure => simp [intOf]; omega
        obtain ⟨bb, off, rfl, _, h1⟩ := ha j hjn
        obtain ⟨b', off', rfl, _, h2⟩ := hb j hjn
        by_cases htm : t j ≤ (M : Int)
        case pos =>
          have HJ2 : Hid (∀ i, i < j + 1 → t i ≤ (M : Int)) := fun i hi => by
            by_cases e : i = j
            · subst e; exact htm
            · exact HJ.out i (by omega)
          go_wp2
          go_round
          case rel => exact ⟨j + 1, by omega, by go_num, HJ2⟩
          case measure => simp [intOf]; omega
        have q0 : decide (t j ≤ (M : Int)) = false := by simpa using htm
        have HJ2 : Hid (∀ i, i < j → t i ≤ ((M + 1 : Nat) : Int)) := fun i hi => by have := HJ.out i hi; omega
        by_cases r1 : a ≤ (M : Int)
        case neg =>
          have q1 : decide (a ≤ (M : Int)) = false := by simpa using r1
          have HT : Hid (cnt f t n a b (M + 1) = cnt f t n a b M) := by
            show _ = _; rw [cnt, tick_no1 f t n a b M (by omega), Int.add_zero]
          go_wp2
          go_round
          case rel => exact ⟨M + 1, j, by omega, by go_num, by rw [HT.out], hj, rfl, HJ2⟩
          case measure => simp [intOf]; omega
        by_cases r2 : (M : Int) < b
        case neg =>
          have q2 : decide ((M : Int) < b) = false := by simpa using r2
          have HT : Hid (cnt f t n a b (M + 1) = cnt f t n a b M) := by
            show _ = _; rw [cnt, tick_no1 f t n a b M (by omega), Int.add_zero]
          go_wp2
          go_round
          case rel => exact ⟨M + 1, j, by omega, by go_num, by rw [HT.out], hj, rfl, HJ2⟩
          case measure => simp [intOf]; omega
        by_cases r3 : f j ≤ (M : Int)
        case neg =>
          have q3 : decide (f j ≤ (M : Int)) = false := by simpa using r3
          have HT : Hid (cnt f t n a b (M + 1) = cnt f t n a b M) := by
            show _ = _; rw [cnt, tick_no2 f t n j a b M HW.out HJ.out (fun _ => by omega), Int.add_zero]
          go_wp2
          go_round
          case rel => exact ⟨M + 1, j, by omega, by go_num, by rw [HT.out], hj, rfl, HJ2⟩
          case measure => simp [intOf]; omega
        have HT : Hid (cnt f t n a b (M + 1) = cnt f t n a b M + 1) := by
          show _ = _; rw [cnt, tick_yes f t n j a b M hjn r1 r2 r3 (by omega)]
        go_wp2
        go_round
        case rel => exact ⟨M + 1, j, by omega, by go_num, by rw [HT.out], hj, rfl, HJ2⟩
        case measure => simp [intOf]; omega
    · have hMD : M = D := by have := HD.out; omega
      rw [hMD]
      rw [hMD] at hlt c1 c2 HJ0 hM
      clear hMD
      go_wp2
      go_ret
      exact ⟨rfl, rfl⟩
end Go.Proofs.Qxb6628961a
