/-
  Seat b6628927aD: the walk of FnTransferAgreesAcrossAccountCounts (f4).
-/
import Derived.Test.Qxb6628927aDoorLaw
namespace Go.Proofs.Qxb6628927aDoor
open Go.RowKit Go.Sort

/-- The way from the source forward to the destination, round the accounts. -/
theorem dist_law (A n : Int) (hA : 2 ≤ A) : (dst A n - frm A n < 0 → dst A n - frm A n + A = 1 + out2 n % (A - 1)) ∧ (0 ≤ dst A n - frm A n → dst A n - frm A n = 1 + out2 n % (A - 1)) := by
  have f1 := (frm_bd A n hA).1
  have f2 := (frm_bd A n hA).2
  have g1 : 0 ≤ out2 n % (A - 1) := Int.emod_nonneg _ (by omega)
  have g2 : out2 n % (A - 1) < A - 1 := Int.emod_lt_of_pos _ (by omega)
  have e : dst A n = (frm A n + 1 + out2 n % (A - 1)) % A := rfl
  rw [e]
  generalize out2 n % (A - 1) = z at *
  generalize frm A n = f at *
  by_cases hlt : f + 1 + z < A
  · rw [Int.emod_eq_of_lt (by omega) hlt]; omega
  · have : (f + 1 + z) % A = f + 1 + z - A := by
      rw [← Int.sub_emod_right, Int.emod_eq_of_lt (by omega) (by omega)]
    omega
theorem src_law (a b n : Int) (h : b % a = 0) : frm b n % a = frm a n := Int.emod_emod_of_dvd _ (Int.dvd_of_emod_eq_zero h)
theorem rest_law (a b z : Int) (h : (b - 1) % (a - 1) = 0) : z % (b - 1) % (a - 1) = z % (a - 1) := Int.emod_emod_of_dvd _ (Int.dvd_of_emod_eq_zero h)

set_option maxHeartbeats 4000000 in
set_option maxRecDepth 100000 in
theorem agrees_walk (p : ByteArray) (a b n : Int) (w : World) (ha2 : a ≤ 9223372036854775807) (hb2 : b ≤ 9223372036854775807) (h0 : -9223372036854775808 ≤ n) (h1 : n ≤ 9223372036854775807) (htab : Tab w) :
    Calls Tryd.prog 4 #[.string p, .int .i64 a, .int .i64 b, .int .i64 n] w fun e w' => e = .returned (.bool true) ∧ Below w.heap.size w w' := by
  go_enter Tryd.func4, Tryd.ntmps4
  go_wp2_with fail
  refine (bytesA_any p a b n w).mono ?_
  rintro e w' ⟨⟨bb, rfl⟩, hw⟩; subst w'
  cases bb with
  | false =>
    go_wp2
    go_ret
    exact ⟨rfl, Below.refl _ _⟩
  | true =>
  by_cases hp : p.size ≤ 1048576
  case neg =>
    go_wp2
    go_ret
    exact ⟨rfl, Below.refl _ _⟩
  by_cases ha : a < 2
  case pos =>
    go_wp2
    go_ret
    exact ⟨rfl, Below.refl _ _⟩
  by_cases hb : b < 2
  case pos =>
    go_wp2
    go_ret
    exact ⟨rfl, Below.refl _ _⟩
  have ha' : decide (a < 2) = false := by simpa using ha
  have hb' : decide (b < 2) = false := by simpa using hb
  go_wp2_with fail
  refine (transfer_any p a n _ hp (by omega) ha2 h0 h1 ?_).mono ?_
  · intro W hW
    exact tab_kept htab ((((Below.refl _ _).alloc (Nat.le_refl _) _).alloc (by simp) _).trans (hW.mono (by simp; omega)))
  rintro e w1 ⟨rfl, hb1⟩
  have hz1 := hb1.size
  simp at hz1
  have hc0 : w1.cell? ⟨w.heap.size + 1, 0, none⟩ = some (.string p) := (hb1.cell (by simp)).trans (by go_simp)
  have hc1 : w1.cell? ⟨w.heap.size + 1, 1, none⟩ = some (.int .i64 b) := (hb1.cell (by simp)).trans (by go_simp)
  have B1 : Below w.heap.size w w1 := (((Below.refl _ _).alloc (Nat.le_refl _) _).alloc (by simp) _).trans (hb1.mono (by simp; omega))
  clear hb1
  have z1 : w.heap.size + 1 < w1.heap.size := by omega
  clear hz1
  unfold transferV
  generalize hD : num n = D
  have HD : Hid (num n = D) := hD
  clear hD
  obtain ⟨fa, hfa⟩ : ∃ x, x = headOf p ++ num (frm a n + 1) := ⟨_, rfl⟩
  obtain ⟨ta, hta⟩ : ∃ x, x = headOf p ++ num (dst a n + 1) := ⟨_, rfl⟩
  rw [← hfa, ← hta]
  have HFA : Hid (fa = headOf p ++ num (frm a n + 1)) := hfa
  have HTA : Hid (ta = headOf p ++ num (dst a n + 1)) := hta
  clear hfa hta
  go_wp2_with fail
  refine (transfer_any p b n _ hp (by omega) hb2 h0 h1 ?_).mono ?_
  · intro W hW
    exact tab_kept htab ((B1.alloc B1.size _).trans (hW.mono (by have := B1.size; simp; omega)))
  rintro e w2 ⟨rfl, hb3⟩
  have hz2 := hb3.size
  simp at hz2
  have t0 : w2.cell? ⟨w1.heap.size, 0, none⟩ = some (.string (p ++ ⟨#[45]⟩ ++ D)) := (hb3.cell (by simp)).trans (by go_simp)
  have t1 : w2.cell? ⟨w1.heap.size, 1, none⟩ = some (.string fa) := (hb3.cell (by simp)).trans (by go_simp)
  have t2 : w2.cell? ⟨w1.heap.size, 2, none⟩ = some (.string ta) := (hb3.cell (by simp)).trans (by go_simp)
  have t3 : w2.cell? ⟨w1.heap.size, 3, none⟩ = some (.int .i64 (amt n)) := (hb3.cell (by simp)).trans (by go_simp)
  have B2 : Below w.heap.size w w2 := (B1.alloc B1.size _).trans (hb3.mono (by have := B1.size; simp; omega))
  clear hb3 B1 hc0 hc1 z1
  have z2 : w1.heap.size < w2.heap.size := by omega
  clear hz2
  unfold transferV
  rw [HD.out]
  obtain ⟨fb, hfb⟩ : ∃ x, x = headOf p ++ num (frm b n + 1) := ⟨_, rfl⟩
  obtain ⟨tb, htb⟩ : ∃ x, x = headOf p ++ num (dst b n + 1) := ⟨_, rfl⟩
  rw [← hfb, ← htb]
  have HFB : Hid (fb = headOf p ++ num (frm b n + 1)) := hfb
  have HTB : Hid (tb = headOf p ++ num (dst b n + 1)) := htb
  clear hfb htb
  obtain ⟨m1, m2⟩ := amt_bd n
  generalize amt n = am at *
  have n1 : ¬ 9223372036854775807 < 6 + p.size := by omega
  have n2 : ¬ 9223372036854775807 < 6 + p.size + 2 := by omega
  obtain ⟨fa1, fa2⟩ := frm_bd a n (by omega)
  obtain ⟨da1, da2⟩ := dst_bd a n (by omega)
  obtain ⟨fb1, fb2⟩ := frm_bd b n (by omega)
  obtain ⟨db1, db2⟩ := dst_bd b n (by omega)
  have nea := two_apart a n (by omega)
  have neb := two_apart b n (by omega)
  go_wp2_with fail
  refine (index_head p _ fa (frm a n + 1) a _ hp rfl HFA.out (by omega) (by omega) ha2).mono ?_
  rintro e w' ⟨rfl, hw⟩; subst w'
  go_wp2_with fail
  refine (index_head p _ ta (dst a n + 1) a _ hp rfl HTA.out (by omega) (by omega) ha2).mono ?_
  rintro e w' ⟨rfl, hw⟩; subst w'
  go_wp2_with fail
  refine (index_head p _ fb (frm b n + 1) b _ hp rfl HFB.out (by omega) (by omega) hb2).mono ?_
  rintro e w' ⟨rfl, hw⟩; subst w'
  go_wp2_with fail
  refine (index_head p _ tb (dst b n + 1) b _ hp rfl HTB.out (by omega) (by omega) hb2).mono ?_
  rintro e w' ⟨rfl, hw⟩; subst w'
  clear HFA HTA HFB HTB
  have L1 : Hid (b % a = 0 → frm b n % a = frm a n) := src_law a b n
  have L2 : Hid _ := dist_law a n (by omega)
  have L3 : Hid _ := dist_law b n (by omega)
  have L4 : Hid _ := rest_law a b (out2 n)
  generalize out2 n = zz at *
  generalize frm a n = f1 at *
  generalize dst a n = g1 at *
  generalize frm b n = f2 at *
  generalize dst b n = g2 at *
  have q1 : (f1 + 1 == g1 + 1) = false := by simp; omega
  have q2 : (f2 + 1 == g2 + 1) = false := by simp; omega
  have p2 : Hid (0 ≤ g2 + 1 - (f2 + 1) → 1 ≤ g2 + 1 - (f2 + 1)) := fun h => by omega
  clear t1 t2 nea neb HD htab hp n1 n2 ha' hb'
  have m3 : decide (am < 1) = false := by simp; omega
  have m4 : decide (1000 < am) = false := by simp; omega
  by_cases s1 : g1 + 1 - (f1 + 1) < 0
  · by_cases s2 : g2 + 1 - (f2 + 1) < 0
    · by_cases r1 : b % a = 0
      · by_cases r2 : (b - 1) % (a - 1) = 0
        · have u1 : (f2 % a != f1) = false := by rw [L1.out r1]; simp
          have u2 : ((g2 + 1 - (f2 + 1) + b - 1) % (a - 1) != g1 + 1 - (f1 + 1) + a - 1) = false := by
            have := L2.out.1 (by omega)
            have := L3.out.1 (by omega)
            rw [show g2 + 1 - (f2 + 1) + b - 1 = zz % (b - 1) from by omega, show g1 + 1 - (f1 + 1) + a - 1 = zz % (a - 1) from by omega, L4.out r2]
            simp
          have v1 : (b % a == 0) = true := by simp [r1]
          have v2 : ((b - 1) % (a - 1) == 0) = true := by simp [r2]
          clear L1 L2 L3 L4 p2
          go_wp2
          go_ret
          exact ⟨rfl, B2.alloc B2.size _⟩
        · have u1 : (f2 % a != f1) = false := by rw [L1.out r1]; simp
          have v1 : (b % a == 0) = true := by simp [r1]
          have v2 : ((b - 1) % (a - 1) == 0) = false := by simp [r2]
          clear L1 L2 L3 L4 p2
          go_wp2
          go_ret
          exact ⟨rfl, B2.alloc B2.size _⟩
      · by_cases r2 : (b - 1) % (a - 1) = 0
        · have u2 : ((g2 + 1 - (f2 + 1) + b - 1) % (a - 1) != g1 + 1 - (f1 + 1) + a - 1) = false := by
            have := L2.out.1 (by omega)
            have := L3.out.1 (by omega)
            rw [show g2 + 1 - (f2 + 1) + b - 1 = zz % (b - 1) from by omega, show g1 + 1 - (f1 + 1) + a - 1 = zz % (a - 1) from by omega, L4.out r2]
            simp
          have v1 : (b % a == 0) = false := by simp [r1]
          have v2 : ((b - 1) % (a - 1) == 0) = true := by simp [r2]
          clear L1 L2 L3 L4 p2
          go_wp2
          go_ret
          exact ⟨rfl, B2.alloc B2.size _⟩
        · have v1 : (b % a == 0) = false := by simp [r1]
          have v2 : ((b - 1) % (a - 1) == 0) = false := by simp [r2]
          clear L1 L2 L3 L4 p2
          go_wp2
          go_ret
          exact ⟨rfl, B2.alloc B2.size _⟩
    · by_cases r1 : b % a = 0
      · by_cases r2 : (b - 1) % (a - 1) = 0
        · have p3 := p2.out (by omega)
          have u1 : (f2 % a != f1) = false := by rw [L1.out r1]; simp
          have u2 : ((g2 + 1 - (f2 + 1) - 1) % (a - 1) != g1 + 1 - (f1 + 1) + a - 1) = false := by
            have := L2.out.1 (by omega)
            have := L3.out.2 (by omega)
            rw [show g2 + 1 - (f2 + 1) - 1 = zz % (b - 1) from by omega, show g1 + 1 - (f1 + 1) + a - 1 = zz % (a - 1) from by omega, L4.out r2]
            simp
          have v1 : (b % a == 0) = true := by simp [r1]
          have v2 : ((b - 1) % (a - 1) == 0) = true := by simp [r2]
          clear L1 L2 L3 L4 p2
          go_wp2
          go_ret
          exact ⟨rfl, B2.alloc B2.size _⟩
        · have p3 := p2.out (by omega)
          have u1 : (f2 % a != f1) = false := by rw [L1.out r1]; simp
          have v1 : (b % a == 0) = true := by simp [r1]
          have v2 : ((b - 1) % (a - 1) == 0) = false := by simp [r2]
          clear L1 L2 L3 L4 p2
          go_wp2
          go_ret
          exact ⟨rfl, B2.alloc B2.size _⟩
      · by_cases r2 : (b - 1) % (a - 1) = 0
        · have p3 := p2.out (by omega)
          have u2 : ((g2 + 1 - (f2 + 1) - 1) % (a - 1) != g1 + 1 - (f1 + 1) + a - 1) = false := by
            have := L2.out.1 (by omega)
            have := L3.out.2 (by omega)
            rw [show g2 + 1 - (f2 + 1) - 1 = zz % (b - 1) from by omega, show g1 + 1 - (f1 + 1) + a - 1 = zz % (a - 1) from by omega, L4.out r2]
            simp
          have v1 : (b % a == 0) = false := by simp [r1]
          have v2 : ((b - 1) % (a - 1) == 0) = true := by simp [r2]
          clear L1 L2 L3 L4 p2
          go_wp2
          go_ret
          exact ⟨rfl, B2.alloc B2.size _⟩
        · have p3 := p2.out (by omega)
          have v1 : (b % a == 0) = false := by simp [r1]
          have v2 : ((b - 1) % (a - 1) == 0) = false := by simp [r2]
          clear L1 L2 L3 L4 p2
          go_wp2
          go_ret
          exact ⟨rfl, B2.alloc B2.size _⟩
  · by_cases s2 : g2 + 1 - (f2 + 1) < 0
    · by_cases r1 : b % a = 0
      · by_cases r2 : (b - 1) % (a - 1) = 0
        · have u1 : (f2 % a != f1) = false := by rw [L1.out r1]; simp
          have u2 : ((g2 + 1 - (f2 + 1) + b - 1) % (a - 1) != g1 + 1 - (f1 + 1) - 1) = false := by
            have := L2.out.2 (by omega)
            have := L3.out.1 (by omega)
            rw [show g2 + 1 - (f2 + 1) + b - 1 = zz % (b - 1) from by omega, show g1 + 1 - (f1 + 1) - 1 = zz % (a - 1) from by omega, L4.out r2]
            simp
          have v1 : (b % a == 0) = true := by simp [r1]
          have v2 : ((b - 1) % (a - 1) == 0) = true := by simp [r2]
          clear L1 L2 L3 L4 p2
          go_wp2
          go_ret
          exact ⟨rfl, B2.alloc B2.size _⟩
        · have u1 : (f2 % a != f1) = false := by rw [L1.out r1]; simp
          have v1 : (b % a == 0) = true := by simp [r1]
          have v2 : ((b - 1) % (a - 1) == 0) = false := by simp [r2]
          clear L1 L2 L3 L4 p2
          go_wp2
          go_ret
          exact ⟨rfl, B2.alloc B2.size _⟩
      · by_cases r2 : (b - 1) % (a - 1) = 0
        · have u2 : ((g2 + 1 - (f2 + 1) + b - 1) % (a - 1) != g1 + 1 - (f1 + 1) - 1) = false := by
            have := L2.out.2 (by omega)
            have := L3.out.1 (by omega)
            rw [show g2 + 1 - (f2 + 1) + b - 1 = zz % (b - 1) from by omega, show g1 + 1 - (f1 + 1) - 1 = zz % (a - 1) from by omega, L4.out r2]
            simp
          have v1 : (b % a == 0) = false := by simp [r1]
          have v2 : ((b - 1) % (a - 1) == 0) = true := by simp [r2]
          clear L1 L2 L3 L4 p2
          go_wp2
          go_ret
          exact ⟨rfl, B2.alloc B2.size _⟩
        · have v1 : (b % a == 0) = false := by simp [r1]
          have v2 : ((b - 1) % (a - 1) == 0) = false := by simp [r2]
          clear L1 L2 L3 L4 p2
          go_wp2
          go_ret
          exact ⟨rfl, B2.alloc B2.size _⟩
    · by_cases r1 : b % a = 0
      · by_cases r2 : (b - 1) % (a - 1) = 0
        · have p3 := p2.out (by omega)
          have u1 : (f2 % a != f1) = false := by rw [L1.out r1]; simp
          have u2 : ((g2 + 1 - (f2 + 1) - 1) % (a - 1) != g1 + 1 - (f1 + 1) - 1) = false := by
            have := L2.out.2 (by omega)
            have := L3.out.2 (by omega)
            rw [show g2 + 1 - (f2 + 1) - 1 = zz % (b - 1) from by omega, show g1 + 1 - (f1 + 1) - 1 = zz % (a - 1) from by omega, L4.out r2]
            simp
          have v1 : (b % a == 0) = true := by simp [r1]
          have v2 : ((b - 1) % (a - 1) == 0) = true := by simp [r2]
          clear L1 L2 L3 L4 p2
          go_wp2
          go_ret
          exact ⟨rfl, B2.alloc B2.size _⟩
        · have p3 := p2.out (by omega)
          have u1 : (f2 % a != f1) = false := by rw [L1.out r1]; simp
          have v1 : (b % a == 0) = true := by simp [r1]
          have v2 : ((b - 1) % (a - 1) == 0) = false := by simp [r2]
          clear L1 L2 L3 L4 p2
          go_wp2
          go_ret
          exact ⟨rfl, B2.alloc B2.size _⟩
      · by_cases r2 : (b - 1) % (a - 1) = 0
        · have p3 := p2.out (by omega)
          have u2 : ((g2 + 1 - (f2 + 1) - 1) % (a - 1) != g1 + 1 - (f1 + 1) - 1) = false := by
            have := L2.out.2 (by omega)
            have := L3.out.2 (by omega)
            rw [show g2 + 1 - (f2 + 1) - 1 = zz % (b - 1) from by omega, show g1 + 1 - (f1 + 1) - 1 = zz % (a - 1) from by omega, L4.out r2]
            simp
          have v1 : (b % a == 0) = false := by simp [r1]
          have v2 : ((b - 1) % (a - 1) == 0) = true := by simp [r2]
          clear L1 L2 L3 L4 p2
          go_wp2
          go_ret
          exact ⟨rfl, B2.alloc B2.size _⟩
        · have p3 := p2.out (by omega)
          have v1 : (b % a == 0) = false := by simp [r1]
          have v2 : ((b - 1) % (a - 1) == 0) = false := by simp [r2]
          clear L1 L2 L3 L4 p2
          go_wp2
          go_ret
          exact ⟨rfl, B2.alloc B2.size _⟩
end Go.Proofs.Qxb6628927aDoor
