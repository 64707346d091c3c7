/-
  Seat b6628927aD: the walks of splitMix64.next (f11) and Plan.Account (f9).
-/
import Derived.Test.Qxb6628927aDoorLays
import Derived.Test.Qxb6628927aDoorTail
import Derived.WalkSpells
import Derived.WalkLawsBesides
import Derived.OpenShut
import Derived.BigQuiet
import Derived.Lib.ItoaLen
namespace Go.Proofs.Qxb6628927aDoor
open Go.RowKit Go.Sort

def nxt (s : Int) : Int := IntKind.u64.wrap (s + 11400714819323198485)
def mixA (t : Int) : Int := IntKind.u64.wrap (bits BinOp.xor IntKind.u64 t (t / 1073741824) * 13787848793156543929)
def mixB (t : Int) : Int := IntKind.u64.wrap (bits BinOp.xor IntKind.u64 t (t / 134217728) * 10723151780598845931)
def mixC (t : Int) : Int := bits BinOp.xor IntKind.u64 t (t / 2147483648)
def mix (t : Int) : Int := mixC (mixB (mixA t))

theorem nxt_bd (s : Int) : 0 ≤ nxt s ∧ nxt s ≤ 18446744073709551615 := bounds_u64 (wf_wrap _ _)
theorem mix_bd (s : Int) : 0 ≤ mix s ∧ mix s ≤ 18446744073709551615 := bounds_u64 (show (Lit.int IntKind.u64 (bits BinOp.xor IntKind.u64 (mixB (mixA s)) (mixB (mixA s) / 2147483648))).wf = true from wf_bits _ _ _ _)

set_option maxHeartbeats 400000 in
theorem next_any (b : Nat) (s : Int) (w : World) (hc : w.cell? ⟨b, 0, none⟩ = some (.int .u64 s)) (hf : w.frozen? ⟨b, 0, none⟩ = false) :
    Calls Tryd.prog 11 #[.pointer (some ⟨b, 0, none⟩)] w fun e w' => e = .returned (.int .u64 (mix (nxt s))) ∧ w' = w.setCell ⟨b, 0, none⟩ (.int .u64 (nxt s)) := by
  go_enter Tryd.func11, Tryd.ntmps11
  go_wp2
  go_ret
  exact ⟨rfl, rfl⟩

/-- The table that strconv reads. -/
abbrev Tab (w : World) : Prop := Lib.TabIs Tryd.prog w tabName .u64 Lib.pow10Tab

/-- The text of n, in decimal. -/
def num (n : Int) : ByteArray := ⟨(Lib.itoa n).toArray⟩
def headOf (p : ByteArray) : ByteArray := ⟨#[98, 101, 110, 99, 104, 58]⟩ ++ p ++ ⟨#[58, 97]⟩

theorem num_le (n : Int) (h0 : -9223372036854775808 ≤ n) (h1 : n ≤ 9223372036854775807) : (num n).size ≤ 21 := by
  have := Lib.itoa_length_le n h0 h1
  show ((Lib.itoa n).toArray).size ≤ 21
  simpa using this

set_option maxHeartbeats 1000000 in
theorem account_any (p : ByteArray) (A i : Int) (w : World) (hp : p.size ≤ 1048576) (h0 : -9223372036854775808 ≤ i) (h1 : i ≤ 9223372036854775807) (htab : ∀ W, Below w.heap.size w W → Tab W) :
    Calls Tryd.prog 9 #[.agg #[.string p, .int .i64 A], .int .i64 i] w fun e w' => e = .returned (.string (headOf p ++ num i)) ∧ Below w.heap.size w w' := by
  have hq := num_le i h0 h1
  obtain ⟨q, hqe⟩ : ∃ q, q = num i := ⟨_, rfl⟩
  have HQ : Hid (q = num i) := hqe
  rw [← hqe] at hq
  go_enter Tryd.func9, Tryd.ntmps9
  go_wp2
  have c0 : (w.alloc (.cells #[.string p, .int .i64 A] 24)).cell? ⟨w.heap.size, 0, none⟩ = some (.string p) := by simp
  have B0 : Below w.heap.size w (w.alloc (.cells #[.string p, .int .i64 A] 24)) := (Below.refl _ _).alloc (Nat.le_refl _) _
  generalize w.alloc (.cells #[.string p, .int .i64 A] 24) = w0 at *
  have k0 := cell_regrown c0
  have cI : ∀ d os, Calls Tryd.prog 13 #[.int .i64 i] (grow (redrawn w0 d) os) fun e w'' => e = .returned (.string q) ∧ ∃ p : Regrown, w'' = grow (redrawn w0 p.d) p.os :=
    fun d os => Calls.regrown_of (by rw [hqe]; exact Tryd.itoa_calls i h0 h1 _ (htab _ (B0.trans ((below_regrown w0 d os).mono B0.size))))
  clear hqe
  have n1 : ¬ 9223372036854775807 < 6 + p.size := by omega
  have n2 : ¬ 9223372036854775807 < 6 + p.size + 2 := by omega
  have n3 : ¬ 9223372036854775807 < 6 + p.size + 2 + q.size := by omega
  refine wp_region_quiet_below (by kernel_rfl) (by kernel_rfl) ?_
  repeat (quiet_step (exact cI _ _))
  refine wpQuiet_nil ?_
  intro _ hw'
  obtain ⟨⟨dq, osq⟩, hw''⟩ := hw'
  subst hw''
  go_wp2
  go_ret
  exact ⟨by rw [← HQ.out]; rfl, B0.trans ((below_regrown w0 dq osq).mono B0.size)⟩

end Go.Proofs.Qxb6628927aDoor
