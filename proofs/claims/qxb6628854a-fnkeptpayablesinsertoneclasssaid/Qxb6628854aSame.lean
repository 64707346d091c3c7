import Derived.Test.Qxb6628854aKept
import Derived.Deep.QuietTactic
import Derived.BigQuiet
namespace Go.Proofs.Qxb6628854a
open Go.RowKit

/-- The payables of a list lie behind a slice. -/
def PayRow (w : World) (ao : Option Addr) (L : List (ByteArray × ByteArray)) : Prop :=
  PairRow w ao L.length (fun i => .string (L[i]?.getD (⟨#[]⟩, ⟨#[]⟩)).1) (fun i => .string (L[i]?.getD (⟨#[]⟩, ⟨#[]⟩)).2)

theorem payCells_get (L : List (ByteArray × ByteArray)) (i : Nat) (h : i < L.length) :
    (payCells L)[i * 2]? = some (.string (L[i]?.getD (⟨#[]⟩, ⟨#[]⟩)).1) ∧ (payCells L)[i * 2 + 1]? = some (.string (L[i]?.getD (⟨#[]⟩, ⟨#[]⟩)).2) := by
  induction L generalizing i with
  | nil => simp at h
  | cons x t ih =>
    have e : payCells (x :: t) = .string x.1 :: .string x.2 :: payCells t := by simp [payCells]
    rw [e]
    cases i with
    | zero => simp
    | succ i =>
      have := ih i (by simpa using h)
      rw [show (i + 1) * 2 = i * 2 + 1 + 1 from by omega]
      simpa using this

theorem ownsRow_pay {w : World} {B : Nat} {v : Value} {L : List (ByteArray × ByteArray)} (h : w.ownsRow B 35 2 v L.length (payCells L)) :
    ∃ ao cap, v = .slice ao L.length cap ∧ PayRow w ao L := by
  rcases h.2 with ⟨rfl, h0⟩ | ⟨g, cap, cur, rfl, hb, hg, rest⟩
  · exact ⟨none, 0, by rw [h0], fun i hi => by omega⟩
  · refine ⟨some ⟨g, 0, none⟩, cap, rfl, fun i hi => ⟨g, 0, rfl, (Array.getElem?_eq_some_iff.1 hg).1, ?_, ?_⟩⟩
    · have := h.cellAt (i * 2) (by omega)
      rw [(payCells_get L i hi).1] at this
      simpa using this
    · have := h.cellAt (i * 2 + 1) (by omega)
      rw [(payCells_get L i hi).2] at this
      simpa using this

set_option maxHeartbeats 1000000 in
theorem same_any (ao bo : Option Addr) (n ca cb : Nat) (L : List (ByteArray × ByteArray)) (w : World) (hL : L.length = n) (hn : n ≤ 200000) (ha : PayRow w ao L) (hb : PayRow w bo L) :
    Calls Try.prog 10 #[.slice ao n ca, .slice bo n cb] w fun e w' => e = .returned (.bool true) ∧ ∃ m, w' = w.drewN m := by
  unfold PayRow at ha hb
  rw [hL] at ha hb
  clear hL
  go_enter Try.func10, Try.ntmps10
  go_wp2
  go_loopw [5] (fun i wr => ∃ k m : Nat, k ≤ n ∧ i = .int .i64 k ∧ wr = w.drewN m) (fun i _ => n - (intOf i).toNat)
  case atStart => exact ⟨0, 0, Nat.zero_le _, rfl, rfl⟩
  case round =>
    obtain ⟨k, m, hk, rfl, rfl⟩ := hrel
    by_cases hlt : k < n
    · obtain ⟨b, off, rfl, _, h1, h2⟩ := ha k hlt
      obtain ⟨b', off', rfl, _, h3, h4⟩ := hb k hlt
      obtain ⟨x, hx⟩ : ∃ x, x = L[k]?.getD (⟨#[]⟩, ⟨#[]⟩) := ⟨_, rfl⟩
      simp only [← hx] at h1 h2 h3 h4
      clear hx
      go_wp2
      go_quiet (fail)
      go_wp2
      go_roundw
      case rel => exact ⟨k + 1, m + nq, by omega, by go_num, rfl⟩
      case measure => simp [intOf]; omega
    · go_wp2
      go_ret
      exact ⟨rfl, m, rfl⟩

theorem payCells_hit (L : List (ByteArray × ByteArray)) (k : Nat) (h : k < L.length) : payCells (L.take (k + 1)) = payCells (L.take k) ++ [.string (L[k]?.getD (⟨#[]⟩, ⟨#[]⟩)).1, .string (L[k]?.getD (⟨#[]⟩, ⟨#[]⟩)).2] := by
  rw [List.take_add_one, payCells_app, List.getElem?_eq_getElem h]
  rfl
theorem join_hit {w1 : World} {B : Nat} {v : Value} {A L : List (ByteArray × ByteArray)} {k n : Nat} {x : ByteArray × ByteArray} (hx : x = L[k]?.getD (⟨#[]⟩, ⟨#[]⟩)) (h : k < L.length)
    (hown : w1.ownsRow B 35 2 v (n + 1) (payCells (A ++ L.take k) ++ [.string x.1, .string x.2])) :
    w1.ownsRow B 35 2 v (n + 1) (payCells (A ++ L.take (k + 1))) := by
  rw [payCells_app, payCells_hit L k h, ← List.append_assoc, ← payCells_app, ← hx]
  exact hown

set_option maxHeartbeats 1000000 in
theorem join_any (ao bo : Option Addr) (n m ca cb : Nat) (L M : List (ByteArray × ByteArray)) (w : World) (hL : L.length = n) (hM : M.length = m) (hn : n ≤ 100000) (hm : m ≤ 100000) (ha : PayRow w ao L) (hb : PayRow w bo M) :
    Calls Try.prog 11 #[.slice ao n ca, .slice bo m cb] w fun e w' => ∃ v, e = .returned v ∧ w'.ownsRow w.heap.size 35 2 v (L ++ M).length (payCells (L ++ M)) ∧ Below w.heap.size w w' := by
  obtain ⟨i0, hi, hz0, hz1, hz2⟩ := info_parts Try.info35
  unfold PayRow at ha hb
  rw [hL] at ha
  rw [hM] at hb
  have HL : Hid (L.length = n) := hL
  have HM : Hid (M.length = m) := hM
  clear hL hM
  go_enter Try.func11, Try.ntmps11
  go_wp2_with (at_make; refine wpList_make_own _ rfl _ _ 30 rfl w.heap.size 35 i0 (.agg #[.string ⟨#[]⟩, .string ⟨#[]⟩]) 2 Try.underlying30 hi hz0 hz1 _ _ _ (n + m) rfl rfl (by omega) (by rw [hz2]; omega) (by unfold maxLen; omega) (Nat.le_refl _) ?_; intro w0 hown0 hgrow0)
  have R0 : w0.ownsRow w.heap.size 35 2 (.slice (some ⟨w.heap.size, 0, none⟩) 0 (n + m)) 0 (payCells ([] ++ L.take 0)) := hown0
  have S0 : Below w.heap.size w w0 := (Below.refl _ _).grown hgrow0 (Nat.le_refl _) (fun j hj => by cases hj)
  clear hown0 hgrow0
  go_loopw [5, 6] (fun v i wr => ∃ k : Nat, k ≤ n ∧ i = .int .i64 k ∧ wr.ownsRow w.heap.size 35 2 v (k) (payCells ([] ++ L.take k)) ∧ Below w.heap.size w wr)
      (fun _ i _ => n - (intOf i).toNat)
  case atStart => exact ⟨0, Nat.zero_le _, rfl, R0, S0⟩
  case round =>
    clear R0 S0
    obtain ⟨k, hk, rfl, hown, hnx⟩ := hrel
    have hsz := hnx.size
    by_cases hlt : k < n
    · obtain ⟨b, off, rfl, hbb, h1, h2⟩ := ha k hlt
      obtain ⟨x, hx⟩ : ∃ x, x = L[k]?.getD (⟨#[]⟩, ⟨#[]⟩) := ⟨_, rfl⟩
      simp only [← hx] at h1 h2
      have HX : Hid (x = L[k]?.getD (⟨#[]⟩, ⟨#[]⟩)) := hx
      have g1 : wr.cell? ⟨b, off + k * 2, none⟩ = some (.string x.1) := (hnx.cell (by exact hbb)).trans h1
      have g2 : wr.cell? ⟨b, off + k * 2 + 1, none⟩ = some (.string x.2) := (hnx.cell (by exact hbb)).trans h2
      clear h1 h2 hx
      go_wp2_with (at_builtin; refine wpList_append_own _ rfl (.tmp 20) (.tmp 25) 30 rfl w.heap.size 35 i0 (.agg #[.string ⟨#[]⟩, .string ⟨#[]⟩]) 2 32 Try.underlying30 hi hz0 hz1 hz2 rfl (by decide) _ _ _ rfl (hown.alloc _) ⟨wr.heap.size, 0, none⟩ 1 1 [.string x.1, .string x.2] rfl rfl (news_one (by simp) (by simp)) oneCell2 (by unfold maxLen; omega) (by omega) (by simp; omega) ?_; intro v' w1 hown' hgrow _)
      have R := join_hit (A := []) (L := L) (k := k) HX.out (by rw [HL.out]; exact hlt) hown'
      have S : Below w.heap.size w w1 := (hnx.alloc hsz _).grown hgrow (by simp; omega) (fun j hj => (hown.lt j hj).1)
      clear hown' hgrow hown
      go_wp2
      go_roundw
      case rel => exact ⟨k + 1, by omega, by go_num, R, S⟩
      case measure => simp [intOf]; omega
    · have hkn : n = k := by omega
      subst hkn
      have R0 : wr.ownsRow w.heap.size 35 2 u5 (n + 0) (payCells (L ++ M.take 0)) := by
        have e : L.take n = L := by rw [← HL.out]; exact List.take_length
        simpa [e] using hown
      have S0 := hnx
      clear hown hnx
      go_wp2
      go_loopw [5, 7] (fun v i wr => ∃ k : Nat, k ≤ m ∧ i = .int .i64 k ∧ wr.ownsRow w.heap.size 35 2 v (n + k) (payCells (L ++ M.take k)) ∧ Below w.heap.size w wr)
          (fun _ i _ => m - (intOf i).toNat)
      case atStart => exact ⟨0, Nat.zero_le _, rfl, R0, S0⟩
      case round =>
        clear R0 S0
        obtain ⟨k, hk, rfl, hown, hnx⟩ := hrel
        have hsz := hnx.size
        by_cases hlt : k < m
        · obtain ⟨b, off, rfl, hbb, h1, h2⟩ := hb k hlt
          obtain ⟨x, hx⟩ : ∃ x, x = M[k]?.getD (⟨#[]⟩, ⟨#[]⟩) := ⟨_, rfl⟩
          simp only [← hx] at h1 h2
          have HX : Hid (x = M[k]?.getD (⟨#[]⟩, ⟨#[]⟩)) := hx
          have g1 : wr.cell? ⟨b, off + k * 2, none⟩ = some (.string x.1) := (hnx.cell (by exact hbb)).trans h1
          have g2 : wr.cell? ⟨b, off + k * 2 + 1, none⟩ = some (.string x.2) := (hnx.cell (by exact hbb)).trans h2
          clear h1 h2 hx
          go_wp2_with (at_builtin; refine wpList_append_own _ rfl (.tmp 33) (.tmp 38) 30 rfl w.heap.size 35 i0 (.agg #[.string ⟨#[]⟩, .string ⟨#[]⟩]) 2 32 Try.underlying30 hi hz0 hz1 hz2 rfl (by decide) _ _ _ rfl (hown.alloc _) ⟨wr.heap.size, 0, none⟩ 1 1 [.string x.1, .string x.2] rfl rfl (news_one (by simp) (by simp)) oneCell2 (by unfold maxLen; omega) (by omega) (by simp; omega) ?_; intro v' w1 hown' hgrow _)
          have R := join_hit (A := L) (L := M) (k := k) HX.out (by rw [HM.out]; exact hlt) hown'
          have S : Below w.heap.size w w1 := (hnx.alloc hsz _).grown hgrow (by simp; omega) (fun j hj => (hown.lt j hj).1)
          clear hown' hgrow hown
          go_wp2
          go_roundw
          case rel => exact ⟨k + 1, by omega, by go_num, R, S⟩
          case measure => simp [intOf]; omega
        · have hkn : m = k := by omega
          subst hkn
          have e : M.take m = M := by rw [← HM.out]; exact List.take_length
          have R : wr.ownsRow w.heap.size 35 2 u5 (L ++ M).length (payCells (L ++ M)) := by
            rw [List.length_append, HL.out, HM.out]; rw [e] at hown; exact hown
          clear e hown
          go_wp2
          go_ret
          exact ⟨_, rfl, R, hnx⟩

end Go.Proofs.Qxb6628854a
