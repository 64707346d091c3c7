/-
  Seat b6628927aD: what both laws use: the table kept, the byte bounds' answers, the account's text read back, the two accounts apart.
-/
import Derived.Test.Qxb6628927aDoorIndex
namespace Go.Proofs.Qxb6628927aDoor
open Go.RowKit Go.Sort

theorem tab_kept {w W : World} (h : Tab w) (hb : Below w.heap.size w W) : Tab W := by
  have hg : Tryd.prog.globalNamed tabName = some 0 := by kernel_rfl
  unfold Tab Lib.TabIs World.var? at *
  rw [hg] at h ⊢
  simp only [Option.bind_some] at h ⊢
  have hlt : 0 < w.heap.size := by
    rcases Nat.lt_or_ge 0 w.heap.size with h' | h'
    · exact h'
    · rw [Array.getElem?_eq_none (by omega)] at h; simp at h
  rw [hb.block 0 hlt]
  exact h

def SomeBool (e : Ending) : Prop := ∃ b, e = .returned (.bool b)

set_option maxHeartbeats 400000 in
theorem bytesN_any (p q : ByteArray) (A n : Int) (w : World) : Calls Tryd.prog 5 #[.string p, .int .i64 A, .int .i64 n, .string q] w fun e w' => SomeBool e ∧ w' = w := by
  go_enter Tryd.func5, Tryd.ntmps5
  go_wp2
  all_goals (go_ret; exact ⟨⟨_, rfl⟩, rfl⟩)
set_option maxHeartbeats 400000 in
theorem bytesA_any (p : ByteArray) (A B n : Int) (w : World) : Calls Tryd.prog 10 #[.string p, .int .i64 A, .int .i64 B, .int .i64 n] w fun e w' => SomeBool e ∧ w' = w := by
  go_enter Tryd.func10, Tryd.ntmps10
  go_wp2
  all_goals (go_ret; exact ⟨⟨_, rfl⟩, rfl⟩)

theorem num_nat (v : Nat) : (num (v : Int)).data.toList = Lib.decDigits v := by
  unfold num; rw [Lib.itoa_nonneg]
theorem index_head (p hd s : ByteArray) (v mx : Int) (w : World) (hp : p.size ≤ 1048576) (e1 : hd = headOf p) (e2 : s = headOf p ++ num v) (hv : 1 ≤ v) (hm : v ≤ mx) (hmx : mx ≤ 9223372036854775807) :
    Calls Tryd.prog 8 #[.string s, .string hd, .int .i64 mx] w fun e w' => e = .returned (.tuple #[.int .i64 v, .bool true]) ∧ w' = w := by
  obtain ⟨u, rfl⟩ : ∃ u : Nat, v = u := ⟨v.toNat, by omega⟩
  subst e1 e2
  have h1 : (num (u : Int)).size = (Lib.decDigits u).length := by rw [← num_nat]; simp
  have h2 := dec_pos u
  have h3 := dec_le20 u (by omega)
  have h4 : (headOf p).size = p.size + 8 := by unfold headOf; simp only [ByteArray.size_append]; show 6 + p.size + 2 = _; omega
  refine index_any _ _ (num (u : Int)) u mx w ByteArray.size_append (by omega) (by omega) (by omega) ?_ ?_ (num_nat u) (by omega) hm hmx
  · exact ByteArray.extract_append_eq_left rfl
  · exact ByteArray.extract_append_eq_right rfl rfl

theorem two_apart (A n : Int) (hA : 2 ≤ A) : frm A n ≠ dst A n := by
  intro h
  have f1 := (frm_bd A n hA).1
  have f2 := (frm_bd A n hA).2
  have g1 : 0 ≤ out2 n % (A - 1) := Int.emod_nonneg _ (by omega)
  have g2 : out2 n % (A - 1) < A - 1 := Int.emod_lt_of_pos _ (by omega)
  have e : dst A n = (frm A n + 1 + out2 n % (A - 1)) % A := rfl
  rw [e] at h
  generalize out2 n % (A - 1) = z at *
  generalize frm A n = f at *
  by_cases hlt : f + 1 + z < A
  · rw [Int.emod_eq_of_lt (by omega) hlt] at h; omega
  · have : (f + 1 + z) % A = f + 1 + z - A := by
      rw [← Int.sub_emod_right, Int.emod_eq_of_lt (by omega) (by omega)]
    omega

end Go.Proofs.Qxb6628927aDoor
