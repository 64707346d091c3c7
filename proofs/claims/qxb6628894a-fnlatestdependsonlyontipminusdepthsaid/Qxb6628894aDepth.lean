/-
  Seat b6628894a: 'Rows.FnLatestDependsOnlyOnTipMinusDepthSaid', proved.
-/
import Derived.Test.Qxb6628894aLatest
namespace Go.Proofs.Qxb6628894a.fnLatestDependsOnlyOnTipMinusDepth
open Go.ChangeShapes Go.WideShapes Go.ChangeAt Go.RowKit
open Go.ChangeMaps (open_string shut_string)
set_option linter.unusedVariables false      -- a walk need not use every 'w<i>' (that an integer argument fits its kind)

theorem own : ownKnob Try.prog.godebug = none := by kernel_rfl

theorem ret_true {b : Bool} (h : b = true) : Ending.returned (.bool b) = .returned (.bool true) := by rw [h]

set_option maxHeartbeats 1000000 in
theorem walk (a0 : Int) (a1 : Int) (a2 : Int) (a3 : Int) (w0 : (Lit.int .u64 a0).wf = true) (w1 : (Lit.int .u64 a1).wf = true) (w2 : (Lit.int .u64 a2).wf = true) (w3 : (Lit.int .u64 a3).wf = true) (w : World) :
    Calls Try.prog 4 #[.int .u64 a0, .int .u64 a1, .int .u64 a2, .int .u64 a3] w fun e w' => e = .returned (.bool true) ∧ Below w.heap.size w w' := by
  obtain ⟨p0, q0⟩ := bounds_u64 w0
  obtain ⟨p1, q1⟩ := bounds_u64 w1
  obtain ⟨p2, q2⟩ := bounds_u64 w2
  obtain ⟨p3, q3⟩ := bounds_u64 w3
  clear w0 w1 w2 w3
  by_cases hk : 18446744073709551615 - a1 < a3
  · go_enter Try.func4, Try.ntmps4
    go_wp2
    go_ret
    exact ⟨rfl, Below.refl _ _⟩
  by_cases hk2 : 18446744073709551615 - a2 < a3
  · go_enter Try.func4, Try.ntmps4
    go_wp2
    go_ret
    exact ⟨rfl, Below.refl _ _⟩
  have s1 : a1 + a3 ≤ 18446744073709551615 := by omega
  have s2 : a2 + a3 ≤ 18446744073709551615 := by omega
  by_cases hz : a0 = 0
  · subst hz
    go_enter Try.func4, Try.ntmps4
    go_wp2_with fail
    refine (latest_zero a1 a2 _).mono ?_
    rintro e w1 ⟨rfl, hb⟩
    have hz1 := hb.size
    simp at hz1
    have hc0 : w1.cell? ⟨w.heap.size + 1, 0, none⟩ = some (.int .u64 0) := (hb.cell (by simp)).trans (by simp)
    have hc1 : w1.cell? ⟨w.heap.size + 1, 1, none⟩ = some (.int .u64 (a1 + a3)) := (hb.cell (by simp)).trans (by simp)
    go_wp2_with fail
    refine (latest_zero (a1 + a3) (a2 + a3) _).mono ?_
    rintro e w2 ⟨rfl, hb2⟩
    have B2 : Below w.heap.size w w2 := ((((Below.refl _ _).alloc (Nat.le_refl _) _).alloc (by simp) _).trans (hb.mono (by simp; omega))).trans (hb2.mono (by omega))
    go_wp2
    go_ret
    exact ⟨rfl, B2⟩
  have hib : (a0 == 0) = false := by simp [hz]
  clear hz
  have hpos : 0 < a0 := by simp at hib; omega
  by_cases hl : a2 < a1
  · go_enter Try.func4, Try.ntmps4
    go_wp2_with fail
    refine (latest_low a0 a1 a2 _ hpos hl).mono ?_
    rintro e w1 ⟨rfl, hb⟩
    have hz1 := hb.size
    simp at hz1
    have hc0 : w1.cell? ⟨w.heap.size + 1, 0, none⟩ = some (.int .u64 a0) := (hb.cell (by simp)).trans (by simp)
    have hc1 : w1.cell? ⟨w.heap.size + 1, 1, none⟩ = some (.int .u64 (a1 + a3)) := (hb.cell (by simp)).trans (by simp)
    go_wp2_with fail
    refine (latest_low a0 (a1 + a3) (a2 + a3) _ hpos (by omega)).mono ?_
    rintro e w2 ⟨rfl, hb2⟩
    have B2 : Below w.heap.size w w2 := ((((Below.refl _ _).alloc (Nat.le_refl _) _).alloc (by simp) _).trans (hb.mono (by simp; omega))).trans (hb2.mono (by omega))
    go_wp2
    go_ret
    exact ⟨rfl, B2⟩
  have hl' : decide (a2 < a1) = false := by simpa using hl
  have hle : a1 ≤ a2 := by omega
  by_cases hs : a2 - a1 < a0
  · go_enter Try.func4, Try.ntmps4
    go_wp2_with fail
    refine (latest_small a0 a1 a2 _ p1 hle hs q2).mono ?_
    rintro e w1 ⟨rfl, hb⟩
    have hz1 := hb.size
    simp at hz1
    have hc0 : w1.cell? ⟨w.heap.size + 1, 0, none⟩ = some (.int .u64 a0) := (hb.cell (by simp)).trans (by simp)
    have hc1 : w1.cell? ⟨w.heap.size + 1, 1, none⟩ = some (.int .u64 (a1 + a3)) := (hb.cell (by simp)).trans (by simp)
    go_wp2_with fail
    refine (latest_small a0 (a1 + a3) (a2 + a3) _ (by omega) (by omega) (by omega) (by omega)).mono ?_
    rintro e w2 ⟨rfl, hb2⟩
    have B2 : Below w.heap.size w w2 := ((((Below.refl _ _).alloc (Nat.le_refl _) _).alloc (by simp) _).trans (hb.mono (by simp; omega))).trans (hb2.mono (by omega))
    have ez : (0 : Int) % a0 = 0 := Int.zero_emod _
    go_wp2
    go_ret
    exact ⟨ret_true (by simp; omega), B2⟩
  have hge : a0 ≤ a2 - a1 := by omega
  obtain ⟨r, hr⟩ : ∃ r, (a2 - a1) % a0 = r := ⟨_, rfl⟩
  have HR : Hid ((a2 - a1) % a0 = r) := hr
  clear hr
  have hr0 : 0 ≤ r := by rw [← HR.out]; exact Int.emod_nonneg _ (by omega)
  have hr1 : r < a0 := by rw [← HR.out]; exact Int.emod_lt_of_pos _ hpos
  have hrm : (a2 - a1 - r) % a0 = 0 := by rw [← HR.out]; simp
  go_enter Try.func4, Try.ntmps4
  go_wp2_with fail
  refine (latest_big a0 a1 a2 r _ hpos p1 hge q0 q2 HR.out).mono ?_
  rintro e w1 ⟨rfl, hb⟩
  have hz1 := hb.size
  simp at hz1
  have hc0 : w1.cell? ⟨w.heap.size + 1, 0, none⟩ = some (.int .u64 a0) := (hb.cell (by simp)).trans (by simp)
  have hc1 : w1.cell? ⟨w.heap.size + 1, 1, none⟩ = some (.int .u64 (a1 + a3)) := (hb.cell (by simp)).trans (by simp)
  go_wp2_with fail
  refine (latest_big a0 (a1 + a3) (a2 + a3) r _ hpos (by omega) (by omega) q0 (by omega) ?_).mono ?_
  · rw [show a2 + a3 - (a1 + a3) = a2 - a1 from by omega]; exact HR.out
  rintro e w2 ⟨rfl, hb2⟩
  have B2 : Below w.heap.size w w2 := ((((Below.refl _ _).alloc (Nat.le_refl _) _).alloc (by simp) _).trans (hb.mono (by simp; omega))).trans (hb2.mono (by omega))
  rw [show a2 + a3 - (a1 + a3) - r = a2 - a1 - r from by omega]
  go_wp2
  go_ret
  exact ⟨ret_true (by simp), B2⟩

/-! ### THE ROW's STEP: WRITTEN OUT: LEAVE IT -/
set_option maxRecDepth 100000 in
theorem lifted (os : Os) (started : os.Started) (H : Type) (enc : TypeId × Value → H) :
    ReturnsInHanded {} Try.checked os 4 .any (Rows.fnLatestDependsOnlyOnTipMinusDepthSpec.pre6 enc Try.prog Try.f4 Rows.fnLatestDependsOnlyOnTipMinusDepthRow.domain false) (Rows.fnLatestDependsOnlyOnTipMinusDepthSpec.post enc Try.prog Try.f4 false true false false) := by
  refine returnsInHanded_of_change (C := Try.checked) own started (by kernel_rfl) Try.func4
    (ChangeSpec.witness6 (enc := enc) (C := Try.checked) false ⟨#[], #[.int .u64 0, .int .u64 0, .int .u64 0, .int .u64 0], []⟩ 8 (by kernel_rfl) (by kernel_rfl) (by kernel_rfl) (by kernel_rfl)) ?_
  intro W base args ds gs before hval0 hW hcnd _
  have hval : ∀ (j : Nat) t v, Try.f4.params[j]? = some t → args[j]? = some v → Value.okWide Try.prog W .any base t v := hval0
  have hW' := hW
  obtain ⟨p, q, hA0, hV, rfl, hfz, hnd⟩ := hW
  have hA : DataW.TrodAll enc Try.prog W 0 (fun _ => true) true Try.f4.params.toList args.toList ds p := hA0
  rw [Try.params4] at hA hval
  obtain ⟨v0, vs0, d0, ds0, p0, q0, hargs, rfl, rfl, h0, r0⟩ := trodAll_cons hA
  obtain ⟨v1, vs1, d1, ds1, p1, q1, rfl, rfl, rfl, h1, r1⟩ := trodAll_cons r0
  obtain ⟨v2, vs2, d2, ds2, p2, q2, rfl, rfl, rfl, h2, r2⟩ := trodAll_cons r1
  obtain ⟨v3, vs3, d3, ds3, p3, q3, rfl, rfl, rfl, h3, r3⟩ := trodAll_cons r2
  obtain ⟨rfl, rfl, rfl⟩ := trodAll_nil r3
  obtain rfl : args = #[v0, v1, v2, v3] := by cases args; simp_all
  obtain ⟨rfl, rfl⟩ := trodVars_none hV
  obtain ⟨a0, rfl, rfl, rfl, w0⟩ := open_int Try.underlying22 (hval 0 22 v0 rfl rfl) h0
  obtain ⟨a1, rfl, rfl, rfl, w1⟩ := open_int Try.underlying22 (hval 1 22 v1 rfl rfl) h1
  obtain ⟨a2, rfl, rfl, rfl, w2⟩ := open_int Try.underlying22 (hval 2 22 v2 rfl rfl) h2
  obtain ⟨a3, rfl, rfl, rfl, w3⟩ := open_int Try.underlying22 (hval 3 22 v3 rfl rfl) h3
  clear hA0 hval0
  simp only [List.append_nil] at hW'
  refine (walk a0 a1 a2 a3 w0 w1 w2 w3 W).mono fun e W' ⟨he, bel⟩ => ?_
  subst he
  exact ⟨_, rfl, _, _, _, [], _, [], hW', trodAll_mk1 (shut_bool Try.underlying4 _), (trodAll_cons_mk (shut_int Try.underlying22 w0) (trodAll_cons_mk (shut_int Try.underlying22 w1) (trodAll_cons_mk (shut_int Try.underlying22 w2) (trodAll_cons_mk (shut_int Try.underlying22 w3) trodAll_mk0)))), rfl, bel.frame _, fun h => by cases h⟩

theorem over : Rows.fnLatestDependsOnlyOnTipMinusDepthRow.holds Try.pinned (OpenSpec.ofChange Rows.fnLatestDependsOnlyOnTipMinusDepthSpec) :=
  OpenClaim.holds_of_wide 4 Try.f4 rfl rfl rfl rfl rfl rfl rfl ⟨rfl, rfl, rfl, rfl, rfl⟩ rfl rfl rfl rfl rfl (by kernel_rfl) Try.func4 (by kernel_rfl)
    (of_decide_eq_true (by kernel_rfl)) (by unfold Func.isWrapper; first | (rw [if_pos (by decide +kernel)]; kernel_rfl) | (rw [if_neg (by decide +kernel)]; exact ⟨rfl, rfl⟩))
    (fun os started H enc _ => lifted os started H enc)

end Go.Proofs.Qxb6628894a.fnLatestDependsOnlyOnTipMinusDepth

namespace Go.Proofs.Qxb6628894a
theorem fnLatestDependsOnlyOnTipMinusDepth_proved : Rows.FnLatestDependsOnlyOnTipMinusDepthSaid := fnLatestDependsOnlyOnTipMinusDepth.over
end Go.Proofs.Qxb6628894a
