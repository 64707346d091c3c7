/-
  Seat b6628927aD: the walk of Plan.Transfer (f6).
-/
import Derived.Test.Qxb6628927aDoorWalks
namespace Go.Proofs.Qxb6628927aDoor
open Go.RowKit Go.Sort

/-- The three outputs of the generator seeded with n. -/
def out1 (n : Int) : Int := mix (nxt (IntKind.u64.wrap n))
def out2 (n : Int) : Int := mix (nxt (nxt (IntKind.u64.wrap n)))
def out3 (n : Int) : Int := mix (nxt (nxt (nxt (IntKind.u64.wrap n))))
def frm (A n : Int) : Int := out1 n % A
def dst (A n : Int) : Int := (out1 n % A + 1 + out2 n % (A - 1)) % A
def amt (n : Int) : Int := 1 + out3 n % 1000
/-- The four cells of a transfer. -/
def transferV (p : ByteArray) (A n : Int) : Value :=
  .agg #[.string (p ++ ⟨#[45]⟩ ++ num n), .string (headOf p ++ num (frm A n + 1)), .string (headOf p ++ num (dst A n + 1)), .int .i64 (amt n)]

theorem frm_bd (A n : Int) (hA : 2 ≤ A) : 0 ≤ frm A n ∧ frm A n < A := ⟨Int.emod_nonneg _ (by omega), Int.emod_lt_of_pos _ (by omega)⟩
theorem dst_bd (A n : Int) (hA : 2 ≤ A) : 0 ≤ dst A n ∧ dst A n < A := ⟨Int.emod_nonneg _ (by omega), Int.emod_lt_of_pos _ (by omega)⟩
theorem amt_bd (n : Int) : 1 ≤ amt n ∧ amt n ≤ 1000 := by unfold amt; omega

theorem wrap_in (x : Int) (h0 : -9223372036854775808 ≤ x) (h1 : x ≤ 9223372036854775807) : IntKind.i64.wrap x = x := by
  rw [IntKind.wrap_i64]
  omega

set_option maxHeartbeats 1000000 in
theorem transfer_any (p : ByteArray) (A n : Int) (w : World) (hp : p.size ≤ 1048576) (hA : 2 ≤ A) (hA2 : A ≤ 9223372036854775807) (h0 : -9223372036854775808 ≤ n) (h1 : n ≤ 9223372036854775807) (htab : ∀ W, Below w.heap.size w W → Tab W) :
    Calls Tryd.prog 6 #[.agg #[.string p, .int .i64 A], .int .i64 n] w fun e w' => e = .returned (transferV p A n) ∧ Below w.heap.size w w' := by
  have b1 := mix_bd (nxt (IntKind.u64.wrap n))
  have b2 := mix_bd (nxt (nxt (IntKind.u64.wrap n)))
  have b3 := mix_bd (nxt (nxt (nxt (IntKind.u64.wrap n))))
  go_enter Tryd.func6, Tryd.ntmps6
  go_wp2_with fail
  refine (next_any (w.heap.size + 1 + 1) (IntKind.u64.wrap n) _ ?_ ?_).mono ?_
  · go_simp
  · go_simp
  rintro e w1 ⟨rfl, rfl⟩
  generalize hz1 : mix (nxt (IntKind.u64.wrap n)) = z1 at b1 ⊢
  have HZ1 : Hid (mix (nxt (IntKind.u64.wrap n)) = z1) := hz1
  clear hz1
  obtain ⟨b10, b11⟩ := b1
  have f1 : 0 ≤ z1 % A := Int.emod_nonneg _ (by omega)
  have f2 : z1 % A < A := Int.emod_lt_of_pos _ (by omega)
  go_wp2_with fail
  refine (next_any (w.heap.size + 1 + 1) (nxt (IntKind.u64.wrap n)) _ ?_ ?_).mono ?_
  · go_simp
  · go_simp
  rintro e w2 ⟨rfl, rfl⟩
  generalize hz2 : mix (nxt (nxt (IntKind.u64.wrap n))) = z2 at b2 ⊢
  have HZ2 : Hid (mix (nxt (nxt (IntKind.u64.wrap n))) = z2) := hz2
  clear hz2
  obtain ⟨b20, b21⟩ := b2
  have f3 : 0 ≤ z2 % (A - 1) := Int.emod_nonneg _ (by omega)
  have f4 : z2 % (A - 1) < A - 1 := Int.emod_lt_of_pos _ (by omega)
  go_wp2_with fail
  refine (next_any (w.heap.size + 1 + 1) (nxt (nxt (IntKind.u64.wrap n))) _ ?_ ?_).mono ?_
  · go_simp
  · go_simp
  rintro e w3 ⟨rfl, rfl⟩
  generalize hz3 : mix (nxt (nxt (nxt (IntKind.u64.wrap n)))) = z3 at b3 ⊢
  have HZ3 : Hid (mix (nxt (nxt (nxt (IntKind.u64.wrap n)))) = z3) := hz3
  clear hz3
  obtain ⟨b30, b31⟩ := b3
  have f5 : 0 ≤ z3 % 1000 := Int.emod_nonneg _ (by omega)
  have f6 : z3 % 1000 < 1000 := Int.emod_lt_of_pos _ (by omega)
  have f7 : 0 ≤ (z1 % A + 1 + z2 % (A - 1)) % A := Int.emod_nonneg _ (by omega)
  have f8 : (z1 % A + 1 + z2 % (A - 1)) % A < A := Int.emod_lt_of_pos _ (by omega)
  go_wp2
  have hsz : (((w.alloc (Obj.cells #[.string p, .int .i64 A] 24)).alloc (Obj.cells #[.string ⟨#[]⟩, .string ⟨#[]⟩, .string ⟨#[]⟩, .int .i64 0] 26)).alloc (Obj.cells #[.int .u64 (nxt (nxt (nxt (IntKind.u64.wrap n))))] 34)).heap.size = w.heap.size + 3 := by go_simp
  have B0 : Below w.heap.size w (((w.alloc (Obj.cells #[.string p, .int .i64 A] 24)).alloc (Obj.cells #[.string ⟨#[]⟩, .string ⟨#[]⟩, .string ⟨#[]⟩, .int .i64 0] 26)).alloc (Obj.cells #[.int .u64 (nxt (nxt (nxt (IntKind.u64.wrap n))))] 34)) :=
    (((Below.refl _ _).alloc (Nat.le_refl _) _).alloc (by simp) _).alloc (by simp; omega) _
  have c0 : (((w.alloc (Obj.cells #[.string p, .int .i64 A] 24)).alloc (Obj.cells #[.string ⟨#[]⟩, .string ⟨#[]⟩, .string ⟨#[]⟩, .int .i64 0] 26)).alloc (Obj.cells #[.int .u64 (nxt (nxt (nxt (IntKind.u64.wrap n))))] 34)).cell? ⟨w.heap.size, 0, none⟩ = some (.string p) := by go_simp
  have c1 : (((w.alloc (Obj.cells #[.string p, .int .i64 A] 24)).alloc (Obj.cells #[.string ⟨#[]⟩, .string ⟨#[]⟩, .string ⟨#[]⟩, .int .i64 0] 26)).alloc (Obj.cells #[.int .u64 (nxt (nxt (nxt (IntKind.u64.wrap n))))] 34)).cell? ⟨w.heap.size, 1, none⟩ = some (.int .i64 A) := by go_simp
  have hr : (((w.alloc (Obj.cells #[.string p, .int .i64 A] 24)).alloc (Obj.cells #[.string ⟨#[]⟩, .string ⟨#[]⟩, .string ⟨#[]⟩, .int .i64 0] 26)).alloc (Obj.cells #[.int .u64 (nxt (nxt (nxt (IntKind.u64.wrap n))))] 34)).heap[w.heap.size + 1]? = some (.cells #[.string ⟨#[]⟩, .string ⟨#[]⟩, .string ⟨#[]⟩, .int .i64 0] 26 (0, 0)) := by
    rw [Below.heap_alloc _ _ _ (by simp)]
    have := heap_alloc_new (w.alloc (Obj.cells #[.string p, .int .i64 A] 24)) (Obj.cells #[.string ⟨#[]⟩, .string ⟨#[]⟩, .string ⟨#[]⟩, .int .i64 0] 26)
    simpa using this
  generalize ((w.alloc (Obj.cells #[.string p, .int .i64 A] 24)).alloc (Obj.cells #[.string ⟨#[]⟩, .string ⟨#[]⟩, .string ⟨#[]⟩, .int .i64 0] 26)).alloc (Obj.cells #[.int .u64 (nxt (nxt (nxt (IntKind.u64.wrap n))))] 34) = w0 at hsz B0 c0 c1 hr ⊢
  generalize hfr : z1 % A = fr at *
  generalize hto : (fr + 1 + z2 % (A - 1)) % A = to at *
  have HFR : Hid (z1 % A = fr) := hfr
  have HTO : Hid ((fr + 1 + z2 % (A - 1)) % A = to) := hto
  clear hfr hto
  have k0 := cell_regrown c0
  have k1 := cell_regrown c1
  have hq := num_le n h0 h1
  obtain ⟨qn, hqn⟩ : ∃ q, q = num n := ⟨_, rfl⟩
  have HQ : Hid (qn = num n) := hqn
  rw [← hqn] at hq
  have tab0 : ∀ d os W, Below (grow (redrawn w0 d) os).heap.size (grow (redrawn w0 d) os) W → Tab W := fun d os W h => htab _ (B0.trans (((below_regrown w0 d os).trans (h.mono (below_regrown w0 d os).size)).mono B0.size))
  have cF : ∀ d os, Calls Tryd.prog 12 #[.int .i64 n, .int .i64 10] (grow (redrawn w0 d) os) fun e w'' => e = .returned (.string qn) ∧ ∃ p : Regrown, w'' = grow (redrawn w0 p.d) p.os :=
    fun d os => Calls.regrown_of (by rw [hqn]; exact Tryd.formatInt_calls n h0 h1 _ (tab0 d os _ (Below.refl _ _)))
  obtain ⟨qa, hqa⟩ : ∃ q, q = headOf p ++ num (fr + 1) := ⟨_, rfl⟩
  obtain ⟨qb, hqb⟩ : ∃ q, q = headOf p ++ num (to + 1) := ⟨_, rfl⟩
  have cA : ∀ d os, Calls Tryd.prog 9 #[.agg #[.string p, .int .i64 A], .int .i64 (fr + 1)] (grow (redrawn w0 d) os) fun e w'' => e = .returned (.string qa) ∧ ∃ p : Regrown, w'' = grow (redrawn w0 p.d) p.os :=
    fun d os => Calls.regrown_of (by rw [hqa]; exact account_any p A _ _ hp (by omega) (by omega) (tab0 d os))
  have cB : ∀ d os, Calls Tryd.prog 9 #[.agg #[.string p, .int .i64 A], .int .i64 (to + 1)] (grow (redrawn w0 d) os) fun e w'' => e = .returned (.string qb) ∧ ∃ p : Regrown, w'' = grow (redrawn w0 p.d) p.os :=
    fun d os => Calls.regrown_of (by rw [hqb]; exact account_any p A _ _ hp (by omega) (by omega) (tab0 d os))
  have HA : Hid (qa = headOf p ++ num (fr + 1)) := hqa
  have HB : Hid (qb = headOf p ++ num (to + 1)) := hqb
  clear hqn hqa hqb tab0
  have v1 := wrap_in fr (by omega) (by omega)
  have v2 := wrap_in (fr + 1) (by omega) (by omega)
  have v3 := wrap_in to (by omega) (by omega)
  have v4 := wrap_in (to + 1) (by omega) (by omega)
  have v5 := wrap_in (1 + z3 % 1000) (by omega) (by omega)
  have n1 : ¬ 9223372036854775807 < p.size + 1 := by omega
  have n2 : ¬ 9223372036854775807 < p.size + 1 + qn.size := by omega
  refine wp_region_below_tail 19 (by kernel_rfl) (by kernel_rfl) ?_
  simp only [List.take_succ_cons, List.take_zero, List.drop_succ_cons, List.drop_zero]
  iterate 4 (quiet_step (fail))
  quiet_step (exact cF _ _)
  iterate 5 (quiet_step (fail))
  quiet_step (exact cA _ _)
  iterate 4 (quiet_step (fail))
  quiet_step (exact cB _ _)
  iterate 3 (quiet_step (fail))
  refine wpQuiet_nil ?_
  intro w' hw'
  obtain ⟨⟨dq, osq⟩, hw''⟩ := hw'
  have B1 := below_regrown w0 dq osq
  rw [← hw''] at B1
  clear hw'' cF cA cB k0 k1 c0 c1
  have hr1 : w'.heap[w.heap.size + 1]? = some (.cells #[.string ⟨#[]⟩, .string ⟨#[]⟩, .string ⟨#[]⟩, .int .i64 0] 26 (0, 0)) := by rw [B1.block _ (by omega)]; exact hr
  have r0 : ∀ j, j < 4 → w'.cell? ⟨w.heap.size + 1, j, none⟩ = some (#[Value.string ⟨#[]⟩, .string ⟨#[]⟩, .string ⟨#[]⟩, .int .i64 0].getD j undef) := by
    intro j hj
    have : j = 0 ∨ j = 1 ∨ j = 2 ∨ j = 3 := by omega
    rcases this with rfl | rfl | rfl | rfl <;> simp [World.cell?, hr1]
  have e0 := r0 0 (by omega)
  have e1 := r0 1 (by omega)
  have e2 := r0 2 (by omega)
  have e3 := r0 3 (by omega)
  have rf : ∀ j, w'.frozen? ⟨w.heap.size + 1, j, none⟩ = false := by intro j; simp [World.frozen?, hr1]
  have B2 := B0.trans (B1.mono B0.size)
  clear r0 hr hr1 B0 B1
  go_wp2
  refine bodyPost_ret (v := .agg #[.string (p ++ ⟨#[45]⟩ ++ qn), .string qa, .string qb, .int .i64 (1 + z3 % 1000)]) (by simp [results, Tryd.results6, go_sem, e0, e1, e2, e3]) rfl ⟨?_, ?_⟩
  · rw [HQ.out, HA.out, HB.out, ← HTO.out, ← HFR.out, ← HZ1.out, ← HZ2.out, ← HZ3.out]
    rfl
  · exact (((B2.setCell (p := ⟨w.heap.size + 1, 0, none⟩) (by simp) _).setCell (p := ⟨w.heap.size + 1, 1, none⟩) (by simp) _).setCell (p := ⟨w.heap.size + 1, 2, none⟩) (by simp) _).setCell (p := ⟨w.heap.size + 1, 3, none⟩) (by simp) _

end Go.Proofs.Qxb6628927aDoor
