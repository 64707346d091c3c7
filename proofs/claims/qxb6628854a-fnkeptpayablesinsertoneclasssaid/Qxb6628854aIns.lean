/-
  Seat b6628854a: a class put in at k: the grown classes' cells, and what the payables then are.
-/
import Derived.Test.Qxb6628854aPlain
namespace Go.Proofs.Qxb6628854a
open Go.RowKit

def insAt {α : Type} (f : Nat → α) (x : α) (k i : Nat) : α := if i < k then f i else if i = k then x else f (i - 1)
theorem insAt_lt {α : Type} {f : Nat → α} {x : α} {k i : Nat} (h : i < k) : insAt f x k i = f i := by unfold insAt; rw [if_pos h]
theorem insAt_at {α : Type} {f : Nat → α} {x : α} {k : Nat} : insAt f x k k = x := by unfold insAt; rw [if_neg (by omega), if_pos rfl]
theorem insAt_gt {α : Type} {f : Nat → α} {x : α} {k i : Nat} (h : k ≤ i) : insAt f x k (i + 1) = f i := by unfold insAt; rw [if_neg (by omega), if_neg (by omega)]; rfl

def clsCells (c : Nat → ByteArray) (p : Nat → Bool) (t : Nat) : List Value := (List.range t).flatMap fun i => [.string (c i), .bool (p i)]
theorem clsCells_succ (c : Nat → ByteArray) (p : Nat → Bool) (t : Nat) : clsCells c p (t + 1) = clsCells c p t ++ [.string (c t), .bool (p t)] := by simp [clsCells, List.range_succ]
theorem clsCells_len (c : Nat → ByteArray) (p : Nat → Bool) (t : Nat) : (clsCells c p t).length = t * 2 := by
  induction t with
  | zero => rfl
  | succ t ih => rw [clsCells_succ, List.length_append, ih]; simp; omega
theorem clsCells_get (c : Nat → ByteArray) (p : Nat → Bool) (t i : Nat) (h : i < t) : (clsCells c p t)[i * 2]? = some (.string (c i)) ∧ (clsCells c p t)[i * 2 + 1]? = some (.bool (p i)) := by
  induction t with
  | zero => omega
  | succ t ih =>
    rw [clsCells_succ]
    by_cases e : i = t
    · subst e
      have hl := clsCells_len c p i
      rw [List.getElem?_append_right (by omega), List.getElem?_append_right (by omega), hl]
      simp
    · have hl := clsCells_len c p t
      rw [List.getElem?_append_left (by omega), List.getElem?_append_left (by omega)]
      exact ih (by omega)
theorem ownsRow_cls {w : World} {B : Nat} {v : Value} {c : Nat → ByteArray} {p : Nat → Bool} {n : Nat} (h : w.ownsRow B 37 2 v n (clsCells c p n)) :
    ∃ ao cap, v = .slice ao n cap ∧ PairRow w ao n (fun i => .string (c i)) (fun i => .bool (p i)) := by
  rcases h.2 with ⟨rfl, h0⟩ | ⟨g, cap, cur, rfl, hb, hg, rest⟩
  · exact ⟨none, 0, by rw [h0], fun i hi => by omega⟩
  · refine ⟨some ⟨g, 0, none⟩, cap, rfl, fun i hi => ⟨g, 0, rfl, (Array.getElem?_eq_some_iff.1 hg).1, ?_, ?_⟩⟩
    · have := h.cellAt (i * 2) (by omega)
      rw [(clsCells_get c p n i hi).1] at this
      simpa using this
    · have := h.cellAt (i * 2 + 1) (by omega)
      rw [(clsCells_get c p n i hi).2] at this
      simpa using this
theorem cls_hit {w1 : World} {B : Nat} {v : Value} {c : Nat → ByteArray} {p : Nat → Bool} {t : Nat} {x : ByteArray} {y : Bool} (hx : c t = x) (hy : p t = y)
    (h : w1.ownsRow B 37 2 v (t + 1) (clsCells c p t ++ [.string x, .bool y])) : w1.ownsRow B 37 2 v (t + 1) (clsCells c p (t + 1)) := by
  rw [clsCells_succ, hx, hy]; exact h
theorem oneCellC {x : ByteArray} {y : Bool} : ∀ u ∈ [Value.string x, Value.bool y], u.oneCell' = true := by
  intro u hu; simp at hu; rcases hu with rfl | rfl <;> rfl

theorem tailPays_congr2 {c d : Nat → ByteArray} {p q : Nat → Bool} {n : Nat} (hc : ∀ i, i < n → d i = c i) (h : ∀ i, i < n → q i = p i) : tailPays d q n = tailPays c p n := by
  induction n with
  | zero => rfl
  | succ n ih => rw [tailPays_succ, tailPays_succ, ih (fun i hi => hc i (by omega)) (fun i hi => h i (by omega)), h n (by omega), hc n (by omega)]
/-- The payables of the grown classes. -/
theorem kept_ins (has : Bool) (c : Nat → ByteArray) (p : Nat → Bool) (code : ByteArray) (pays : Bool) (k m : Nat) (h : k ≤ m) :
    kept has (insAt c code k) (insAt p pays k) (m + 1) = kept has c p k ++ (if pays then [(sales, code)] else []) ++ kept false (fun i => c (k + i)) (fun i => p (k + i)) (m - k) := by
  have e1 : tailPays (insAt c code k) (insAt p pays k) (k + 1) = tailPays c p k ++ (if pays then [(sales, code)] else []) := by
    rw [tailPays_succ, tailPays_congr2 (c := c) (p := p) (fun i hi => insAt_lt hi) (fun i hi => insAt_lt hi), insAt_at, insAt_at]
  have e2 : tailPays (fun i => insAt c code k (k + 1 + i)) (fun i => insAt p pays k (k + 1 + i)) (m - k) = tailPays (fun i => c (k + i)) (fun i => p (k + i)) (m - k) :=
    tailPays_congr2 (fun i _ => by rw [show k + 1 + i = (k + i) + 1 from by omega]; exact insAt_gt (by omega)) (fun i _ => by rw [show k + 1 + i = (k + i) + 1 from by omega]; exact insAt_gt (by omega))
  unfold kept
  rw [show m + 1 = (k + 1) + (m - k) from by omega, tailPays_add, e1, e2]
  simp [headPays, List.append_assoc]

theorem ins_no (has : Bool) (c : Nat → ByteArray) (p : Nat → Bool) (code : ByteArray) (k m : Nat) (h : k ≤ m) : kept has (insAt c code k) (insAt p false k) (m + 1) = kept has c p m := by
  rw [kept_ins has c p code false k m h, kept_split has c p k m h]; simp

/-- Where the class pays: what stands where. -/
theorem ins_yes (has : Bool) (c : Nat → ByteArray) (p : Nat → Bool) (code : ByteArray) (k m : Nat) (h : k ≤ m) :
    ∃ A T, kept has c p k = A ∧ kept has c p m = A ++ T ∧ kept has (insAt c code k) (insAt p true k) (m + 1) = A ++ (sales, code) :: T := by
  refine ⟨_, _, rfl, kept_split has c p k m h, ?_⟩
  rw [kept_ins has c p code true k m h]; simp
theorem mid_lt {α : Type} {A T : List α} {x d : α} {i : Nat} (h : i < A.length) : (A ++ x :: T)[i]?.getD d = (A ++ T)[i]?.getD d := by
  rw [List.getElem?_append_left h, List.getElem?_append_left h]
theorem mid_at {α : Type} {A T : List α} {x d : α} : (A ++ x :: T)[A.length]?.getD d = x := by simp
theorem mid_gt {α : Type} {A T : List α} {x d : α} {i : Nat} (h : A.length ≤ i) : (A ++ x :: T)[i + 1]?.getD d = (A ++ T)[i]?.getD d := by
  rw [List.getElem?_append_right (by omega), List.getElem?_append_right (by omega), show i + 1 - A.length = (i - A.length) + 1 from by omega]; simp

theorem kept_len_succ (has : Bool) (c : Nat → ByteArray) (p : Nat → Bool) (i : Nat) : (kept has c p (i + 1)).length = (kept has c p i).length + (if p i then 1 else 0) := by
  rw [kept_succ]; split <;> simp

end Go.Proofs.Qxb6628854a
