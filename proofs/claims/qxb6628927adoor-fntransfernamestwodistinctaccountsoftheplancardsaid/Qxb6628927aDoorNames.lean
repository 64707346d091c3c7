/-
  Seat b6628927aD: the walk of FnTransferNamesTwoDistinctAccountsOfThePlan (f3).
-/
import Derived.Test.Qxb6628927aDoorLaw
namespace Go.Proofs.Qxb6628927aDoor
open Go.RowKit Go.Sort

set_option maxHeartbeats 4000000 in
set_option maxRecDepth 100000 in
theorem names_walk (p : ByteArray) (A n : Int) (q : ByteArray) (w : World) (hA2 : A ≤ 9223372036854775807) (h0 : -9223372036854775808 ≤ n) (h1 : n ≤ 9223372036854775807) (htab : Tab w) :
    Calls Tryd.prog 3 #[.string p, .int .i64 A, .int .i64 n, .string q] w fun e w' => e = .returned (.bool true) ∧ Below w.heap.size w w' := by
  go_enter Tryd.func3, Tryd.ntmps3
  go_wp2_with fail
  refine (bytesN_any p q A n w).mono ?_
  rintro e w' ⟨⟨bb, rfl⟩, hw⟩; subst w'
  cases bb with
  | false =>
    go_wp2
    go_ret
    exact ⟨rfl, Below.refl _ _⟩
  | true =>
  by_cases hp : p.size ≤ 1048576
  case neg =>
    go_wp2
    go_ret
    exact ⟨rfl, Below.refl _ _⟩
  by_cases hq0 : 1048576 - (p.size : Int) < (q.size : Int)
  case pos =>
    go_wp2
    go_ret
    exact ⟨rfl, Below.refl _ _⟩
  by_cases ha : A < 2
  case pos =>
    go_wp2
    go_ret
    exact ⟨rfl, Below.refl _ _⟩
  have hq : q.size ≤ 1048576 := by omega
  go_wp2_with fail
  refine (transfer_any p A n _ hp (by omega) hA2 h0 h1 ?_).mono ?_
  · intro W hW
    exact tab_kept htab ((((Below.refl _ _).alloc (Nat.le_refl _) _).alloc (by simp) _).trans (hW.mono (by simp; omega)))
  rintro e w1 ⟨rfl, hb1⟩
  have hz1 := hb1.size
  simp at hz1
  have c0 : w1.cell? ⟨w.heap.size, 0, none⟩ = some (.string p) := (hb1.cell (by simp; omega)).trans (by go_simp)
  have c1 : w1.cell? ⟨w.heap.size, 1, none⟩ = some (.int .i64 A) := (hb1.cell (by simp; omega)).trans (by go_simp)
  have c2 : w1.cell? ⟨w.heap.size + 1, 0, none⟩ = some (.string q) := (hb1.cell (by simp)).trans (by go_simp)
  have c3 : w1.cell? ⟨w.heap.size + 1, 1, none⟩ = some (.int .i64 A) := (hb1.cell (by simp)).trans (by go_simp)
  have B1 : Below w.heap.size w w1 := (((Below.refl _ _).alloc (Nat.le_refl _) _).alloc (by simp) _).trans (hb1.mono (by simp; omega))
  have z1 : w.heap.size + 1 < w1.heap.size := by omega
  have z0 : w.heap.size < w1.heap.size := by omega
  clear hb1 hz1
  unfold transferV
  generalize hD : num n = D
  have HD : Hid (num n = D) := hD
  clear hD
  obtain ⟨fa, hfa⟩ : ∃ x, x = headOf p ++ num (frm A n + 1) := ⟨_, rfl⟩
  obtain ⟨ta, hta⟩ : ∃ x, x = headOf p ++ num (dst A n + 1) := ⟨_, rfl⟩
  rw [← hfa, ← hta]
  have HFA : Hid (fa = headOf p ++ num (frm A n + 1)) := hfa
  have HTA : Hid (ta = headOf p ++ num (dst A n + 1)) := hta
  clear hfa hta
  go_wp2_with fail
  refine (transfer_any q A n _ hq (by omega) hA2 h0 h1 ?_).mono ?_
  · intro W hW
    exact tab_kept htab ((B1.alloc B1.size _).trans (hW.mono (by have := B1.size; simp; omega)))
  rintro e w2 ⟨rfl, hb3⟩
  have hz2 := hb3.size
  simp at hz2
  have t0 : w2.cell? ⟨w1.heap.size, 0, none⟩ = some (.string (p ++ ⟨#[45]⟩ ++ D)) := (hb3.cell (by simp)).trans (by go_simp)
  have t1 : w2.cell? ⟨w1.heap.size, 1, none⟩ = some (.string fa) := (hb3.cell (by simp)).trans (by go_simp)
  have t2 : w2.cell? ⟨w1.heap.size, 2, none⟩ = some (.string ta) := (hb3.cell (by simp)).trans (by go_simp)
  have t3 : w2.cell? ⟨w1.heap.size, 3, none⟩ = some (.int .i64 (amt n)) := (hb3.cell (by simp)).trans (by go_simp)
  have d0 : w2.cell? ⟨w.heap.size, 0, none⟩ = some (.string p) := (hb3.cell (by simp; omega)).trans (by go_simp)
  have d1 : w2.cell? ⟨w.heap.size, 1, none⟩ = some (.int .i64 A) := (hb3.cell (by simp; omega)).trans (by go_simp)
  have B2 : Below w.heap.size w w2 := (B1.alloc B1.size _).trans (hb3.mono (by have := B1.size; simp; omega))
  have z2 : w1.heap.size < w2.heap.size := by omega
  have z3 : w.heap.size < w2.heap.size := by omega
  clear hb3 B1 c0 c1 c2 c3 z1 hz2
  unfold transferV
  rw [HD.out]
  obtain ⟨fb, hfb⟩ : ∃ x, x = headOf q ++ num (frm A n + 1) := ⟨_, rfl⟩
  obtain ⟨tb, htb⟩ : ∃ x, x = headOf q ++ num (dst A n + 1) := ⟨_, rfl⟩
  rw [← hfb, ← htb]
  have HFB : Hid (fb = headOf q ++ num (frm A n + 1)) := hfb
  have HTB : Hid (tb = headOf q ++ num (dst A n + 1)) := htb
  clear hfb htb
  go_wp2_with fail
  refine (decimal_any n _ h0 h1).mono ?_
  rintro e w3 ⟨rfl, hb4⟩
  rw [HD.out]
  have hz3 := hb4.size
  simp at hz3
  have s0 : w3.cell? ⟨w2.heap.size, 0, none⟩ = some (.string (q ++ ⟨#[45]⟩ ++ D)) := (hb4.cell (by simp)).trans (by go_simp)
  have s1 : w3.cell? ⟨w2.heap.size, 1, none⟩ = some (.string fb) := (hb4.cell (by simp)).trans (by go_simp)
  have s2 : w3.cell? ⟨w2.heap.size, 2, none⟩ = some (.string tb) := (hb4.cell (by simp)).trans (by go_simp)
  have s3 : w3.cell? ⟨w2.heap.size, 3, none⟩ = some (.int .i64 (amt n)) := (hb4.cell (by simp)).trans (by go_simp)
  have r0 : w3.cell? ⟨w1.heap.size, 0, none⟩ = some (.string (p ++ ⟨#[45]⟩ ++ D)) := (hb4.cell (by simp; omega)).trans (by go_simp)
  have r1 : w3.cell? ⟨w1.heap.size, 1, none⟩ = some (.string fa) := (hb4.cell (by simp; omega)).trans (by go_simp)
  have r2 : w3.cell? ⟨w1.heap.size, 2, none⟩ = some (.string ta) := (hb4.cell (by simp; omega)).trans (by go_simp)
  have r3 : w3.cell? ⟨w1.heap.size, 3, none⟩ = some (.int .i64 (amt n)) := (hb4.cell (by simp; omega)).trans (by go_simp)
  have e0 : w3.cell? ⟨w.heap.size, 0, none⟩ = some (.string p) := (hb4.cell (by simp; omega)).trans (by go_simp)
  have e1 : w3.cell? ⟨w.heap.size, 1, none⟩ = some (.int .i64 A) := (hb4.cell (by simp; omega)).trans (by go_simp)
  have B3 : Below w.heap.size w w3 := (B2.alloc B2.size _).trans (hb4.mono (by have := B2.size; simp; omega))
  clear hb4 B2 t0 t1 t2 t3 d0 d1 hz3 z0 z2 z3
  have hD21 : D.size ≤ 21 := by rw [← HD.out]; exact num_le n h0 h1
  obtain ⟨m1, m2⟩ := amt_bd n
  have m3 : decide (amt n < 1) = false := by simp; omega
  have m4 : decide (1000 < amt n) = false := by simp; omega
  generalize amt n = am at *
  have n1 : ¬ 9223372036854775807 < 6 + p.size := by omega
  have n2 : ¬ 9223372036854775807 < 6 + p.size + 2 := by omega
  have n3 : ¬ 9223372036854775807 < 6 + q.size := by omega
  have n4 : ¬ 9223372036854775807 < 6 + q.size + 2 := by omega
  have n5 : ¬ 9223372036854775807 < p.size + 1 := by omega
  have n6 : ¬ 9223372036854775807 < p.size + 1 + D.size := by omega
  have n7 : ¬ 9223372036854775807 < q.size + 1 := by omega
  have n8 : ¬ 9223372036854775807 < q.size + 1 + D.size := by omega
  obtain ⟨fa1, fa2⟩ := frm_bd A n (by omega)
  obtain ⟨da1, da2⟩ := dst_bd A n (by omega)
  have nea := two_apart A n (by omega)
  generalize frm A n = f1 at *
  generalize dst A n = g1 at *
  have q1 : (f1 + 1 == g1 + 1) = false := by simp; omega
  clear nea
  go_wp2_with fail
  refine (index_head p _ fa (f1 + 1) A _ hp rfl HFA.out (by omega) (by omega) hA2).mono ?_
  rintro e w' ⟨rfl, hw⟩; subst w'
  go_wp2_with fail
  refine (index_head p _ ta (g1 + 1) A _ hp rfl HTA.out (by omega) (by omega) hA2).mono ?_
  rintro e w' ⟨rfl, hw⟩; subst w'
  go_wp2_with fail
  have k1 := cell_regrown r1
  have k2 := cell_regrown r2
  have k3 := cell_regrown e0
  have k4 := cell_regrown e1
  have tab0 : ∀ d os W, Below (grow (redrawn w3 d) os).heap.size (grow (redrawn w3 d) os) W → Tab W := fun d os W h => tab_kept htab (B3.trans (((below_regrown w3 d os).trans (h.mono (below_regrown w3 d os).size)).mono B3.size))
  have cA : ∀ d os, Calls Tryd.prog 9 #[.agg #[.string p, .int .i64 A], .int .i64 (f1 + 1)] (grow (redrawn w3 d) os) fun e w'' => e = .returned (.string fa) ∧ ∃ p : Regrown, w'' = grow (redrawn w3 p.d) p.os :=
    fun d os => Calls.regrown_of (by rw [HFA.out]; exact account_any p A _ _ hp (by omega) (by omega) (tab0 d os))
  have cB : ∀ d os, Calls Tryd.prog 9 #[.agg #[.string p, .int .i64 A], .int .i64 (g1 + 1)] (grow (redrawn w3 d) os) fun e w'' => e = .returned (.string ta) ∧ ∃ p : Regrown, w'' = grow (redrawn w3 p.d) p.os :=
    fun d os => Calls.regrown_of (by rw [HTA.out]; exact account_any p A _ _ hp (by omega) (by omega) (tab0 d os))
  clear tab0
  refine wp_region_quiet_below (by kernel_rfl) (by kernel_rfl) ?_
  iterate 4 (quiet_step (fail))
  quiet_step (exact cA _ _)
  iterate 6 (quiet_step (fail))
  quiet_step (exact cB _ _)
  iterate 2 (quiet_step (fail))
  refine wpQuiet_nil ?_
  intro w4 hw'
  obtain ⟨⟨dq, osq⟩, hw''⟩ := hw'
  have x1 : w4.cell? ⟨w2.heap.size, 1, none⟩ = some (.string fb) := by rw [hw'']; exact cell_regrown s1 dq osq
  have x2 : w4.cell? ⟨w2.heap.size, 2, none⟩ = some (.string tb) := by rw [hw'']; exact cell_regrown s2 dq osq
  have x3 : w4.cell? ⟨w2.heap.size, 3, none⟩ = some (.int .i64 am) := by rw [hw'']; exact cell_regrown s3 dq osq
  have x4 : w4.cell? ⟨w1.heap.size, 3, none⟩ = some (.int .i64 am) := by rw [hw'']; exact cell_regrown r3 dq osq
  have B4 := below_regrown w3 dq osq
  rw [← hw''] at B4
  have B5 := B3.trans (B4.mono B3.size)
  clear hw'' cA cB k1 k2 k3 k4 s0 s1 s2 s3 r0 r1 r2 r3 e0 e1 B3 B4 HFA HTA
  go_wp2_with fail
  refine (index_head q _ fb (f1 + 1) A _ hq rfl HFB.out (by omega) (by omega) hA2).mono ?_
  rintro e w' ⟨rfl, hw⟩; subst w'
  go_wp2_with fail
  refine (index_head q _ tb (g1 + 1) A _ hq rfl HTB.out (by omega) (by omega) hA2).mono ?_
  rintro e w' ⟨rfl, hw⟩; subst w'
  clear HFB HTB
  go_wp2
  go_ret
  exact ⟨by simp, B5⟩
end Go.Proofs.Qxb6628927aDoor
