/-
  Seat b6628961a: the plain laws on minutes.
-/
import Derived.Test.Qxb6628961aWork
namespace Go.Proofs.Qxb6628961a

/-- Where the span before span i ends. -/
def prv (t : Nat → Int) : Nat → Int
  | 0 => 0
  | i + 1 => t i
/-- The first n spans are in order and apart, within the day. -/
def WF (f t : Nat → Int) (n : Nat) : Prop := ∀ i, i < n → prv t i ≤ f i ∧ f i ≤ t i ∧ t i ≤ 1440

theorem WF.step {f t : Nat → Int} {n : Nat} (h : WF f t n) (h1 : prv t n ≤ f n) (h2 : f n ≤ t n) (h3 : t n ≤ 1440) : WF f t (n + 1) := by
  intro i hi
  by_cases e : i = n
  · subst e; exact ⟨h1, h2, h3⟩
  · exact h i (by omega)
theorem WF.less {f t : Nat → Int} {n k : Nat} (h : WF f t n) (hk : k ≤ n) : WF f t k := fun i hi => h i (by omega)
theorem WF.prv_bd {f t : Nat → Int} {n : Nat} (h : WF f t n) : ∀ i, i ≤ n → 0 ≤ prv t i ∧ prv t i ≤ 1440 := by
  intro i
  induction i with
  | zero => intro _; exact ⟨by simp [prv], by simp [prv]⟩
  | succ i ih =>
    intro hi
    have h1 := ih (by omega)
    have h2 := h i (by omega)
    simp only [prv]
    omega
/-- An earlier span ends before a later one begins. -/
theorem WF.apart {f t : Nat → Int} {n : Nat} (h : WF f t n) : ∀ k i, k < n → i < k → t i ≤ f k := by
  intro k
  induction k with
  | zero => intro i _ hi; omega
  | succ k ih =>
    intro i hk hi
    have h1 := h (k + 1) hk
    simp only [prv] at h1
    by_cases e : i = k
    · subst e; exact h1.1
    · have h2 := ih i (by omega) (by omega)
      have h3 := h k (by omega)
      omega

theorem one_join (x y z a b : Int) (h1 : x ≤ y) (h2 : y ≤ z) : one x y a b + one y z a b = one x z a b := by
  unfold one lo hi
  (repeat' split) <;> omega
theorem one_split (f t a m b : Int) (h1 : a ≤ m) (h2 : m ≤ b) : one f t a m + one f t m b = one f t a b := by
  unfold one lo hi
  (repeat' split) <;> omega
theorem mins_split (f t : Nat → Int) (a m b : Int) (h1 : a ≤ m) (h2 : m ≤ b) (n : Nat) : mins f t a m n + mins f t m b n = mins f t a b n := by
  induction n with
  | zero => rfl
  | succ n ih =>
    have := one_split (f n) (t n) a m b h1 h2
    simp only [mins]
    omega
theorem mins_add (f t : Nat → Int) (a b : Int) (k j : Nat) : mins f t a b (k + j) = mins f t a b k + mins (fun i => f (k + i)) (fun i => t (k + i)) a b j := by
  induction j with
  | zero => simp [mins]
  | succ j ih => rw [← Nat.add_assoc]; simp only [mins, ih]; omega
theorem mins_congr {f t f' t' : Nat → Int} {a b : Int} {n : Nat} (hf : ∀ i, i < n → f i = f' i) (ht : ∀ i, i < n → t i = t' i) : mins f t a b n = mins f' t' a b n := by
  induction n with
  | zero => rfl
  | succ n ih => simp only [mins]; rw [ih (fun i hi => hf i (by omega)) (fun i hi => ht i (by omega)), hf n (by omega), ht n (by omega)]

/-- The gaps of the day. -/
def gapT (f : Nat → Int) (n i : Nat) : Int := if i < n then f i else 1440
theorem gaps_part (f t : Nat → Int) (n : Nat) (h : WF f t n) (a b : Int) : ∀ k, k ≤ n → mins f t a b k + mins (prv t) (gapT f n) a b k = one 0 (prv t k) a b := by
  intro k
  induction k with
  | zero => intro _; simp only [mins, prv]; unfold one lo hi; (repeat' split) <;> omega
  | succ k ih =>
    intro hk
    have h1 := ih (by omega)
    have h2 := h k (by omega)
    have h3 := (h.prv_bd k (by omega)).1
    have j1 := one_join 0 (prv t k) (f k) a b h3 h2.1
    have j2 := one_join 0 (f k) (t k) a b (by omega) h2.2.1
    have e : gapT f n k = f k := by unfold gapT; rw [if_pos (by omega)]
    simp only [mins, e]
    simp only [prv] at *
    omega
theorem gaps_all (f t : Nat → Int) (n : Nat) (h : WF f t n) (a b : Int) (ha : 0 ≤ a) (hb : b ≤ 1440) :
    mins f t a b n + mins (prv t) (gapT f n) a b (n + 1) = if a < b then b - a else 0 := by
  have h1 := gaps_part f t n h a b n (Nat.le_refl _)
  have h2 := h.prv_bd n (Nat.le_refl _)
  have j := one_join 0 (prv t n) 1440 a b h2.1 h2.2
  have e : gapT f n n = 1440 := by unfold gapT; rw [if_neg (by omega)]
  have h3 : one 0 1440 a b = if a < b then b - a else 0 := by unfold one lo hi; (repeat' split) <;> omega
  rw [← h3]
  simp only [mins, e]
  omega

/-! ### Counting -/
/-- Minute m lies in one of the first n spans. -/
def inSpan (f t : Nat → Int) (m : Int) : Nat → Bool
  | 0 => false
  | k + 1 => inSpan f t m k || (decide (f k ≤ m) && decide (m < t k))
def tick (f t : Nat → Int) (n : Nat) (a b m : Int) : Int := if a ≤ m ∧ m < b ∧ inSpan f t m n = true then 1 else 0
def cnt (f t : Nat → Int) (n : Nat) (a b : Int) : Nat → Int
  | 0 => 0
  | m + 1 => cnt f t n a b m + tick f t n a b (m : Int)
theorem inSpan_spec (f t : Nat → Int) (m : Int) (n : Nat) : inSpan f t m n = true ↔ ∃ i, i < n ∧ f i ≤ m ∧ m < t i := by
  induction n with
  | zero => simp [inSpan]
  | succ n ih =>
    simp only [inSpan, Bool.or_eq_true, ih, Bool.and_eq_true, decide_eq_true_eq]
    constructor
    · rintro (⟨i, h1, h2, h3⟩ | ⟨h2, h3⟩)
      · exact ⟨i, by omega, h2, h3⟩
      · exact ⟨n, by omega, h2, h3⟩
    · rintro ⟨i, h1, h2, h3⟩
      by_cases e : i = n
      · subst e; exact .inr ⟨h2, h3⟩
      · exact .inl ⟨i, by omega, h2, h3⟩
theorem tick_bd (f t : Nat → Int) (n : Nat) (a b m : Int) : 0 ≤ tick f t n a b m ∧ tick f t n a b m ≤ 1 := by unfold tick; split <;> omega
theorem cnt_bd (f t : Nat → Int) (n : Nat) (a b : Int) (m : Nat) : 0 ≤ cnt f t n a b m ∧ cnt f t n a b m ≤ (m : Int) := by
  induction m with
  | zero => exact ⟨Int.le_refl _, Int.le_refl _⟩
  | succ m ih => have := tick_bd f t n a b (m : Int); simp only [cnt]; omega
/-- One span's own minutes. -/
def tick1 (f t a b m : Int) : Int := if a ≤ m ∧ m < b ∧ f ≤ m ∧ m < t then 1 else 0
def cnt1 (f t a b : Int) : Nat → Int
  | 0 => 0
  | m + 1 => cnt1 f t a b m + tick1 f t a b (m : Int)
theorem tick_succ (f t : Nat → Int) (n : Nat) (a b m : Int) (h : ∀ i, i < n → t i ≤ f n) : tick f t (n + 1) a b m = tick f t n a b m + tick1 (f n) (t n) a b m := by
  unfold tick tick1
  by_cases h1 : inSpan f t m n = true
  · obtain ⟨i, hi, h2, h3⟩ := (inSpan_spec f t m n).1 h1
    have h4 := h i hi
    have h5 : inSpan f t m (n + 1) = true := by simp [inSpan, h1]
    simp only [h1, h5, and_true]
    (repeat' split) <;> omega
  · have h5 : inSpan f t m (n + 1) = true ↔ f n ≤ m ∧ m < t n := by simp [inSpan, h1]
    simp [h5, h1]
theorem cnt_succ (f t : Nat → Int) (n : Nat) (a b : Int) (h : ∀ i, i < n → t i ≤ f n) (m : Nat) : cnt f t (n + 1) a b m = cnt f t n a b m + cnt1 (f n) (t n) a b m := by
  induction m with
  | zero => rfl
  | succ m ih => simp only [cnt, cnt1, ih, tick_succ f t n a b m h]; omega
theorem cnt1_eq (f t a b : Int) (ha : 0 ≤ a) (m : Nat) : cnt1 f t a b m = if lo f a < hi (hi t b) m then hi (hi t b) m - lo f a else 0 := by
  induction m with
  | zero => simp only [cnt1]; unfold lo hi; (repeat' split) <;> omega
  | succ m ih =>
    simp only [cnt1, ih]
    unfold tick1 lo hi
    (repeat' split) <;> omega
theorem cnt_zero (f t : Nat → Int) (a b : Int) (m : Nat) : cnt f t 0 a b m = 0 := by
  induction m with
  | zero => rfl
  | succ m ih => simp only [cnt, ih]; simp [tick, inSpan]
/-- The count, minute by minute, is the sum over the spans. -/
theorem cnt_mins (f t : Nat → Int) (n : Nat) (h : WF f t n) (a b : Int) (ha : 0 ≤ a) (hb : b ≤ 1440) : cnt f t n a b 1440 = mins f t a b n := by
  induction n with
  | zero => exact cnt_zero f t a b 1440
  | succ n ih =>
    rw [cnt_succ f t n a b (fun i hi => h.apart n i (by omega) hi), ih (h.less (by omega)), cnt1_eq _ _ _ _ ha]
    simp only [mins]
    congr 1
    have h1 := (h n (by omega)).2.2
    unfold one lo hi
    (repeat' split) <;> omega

end Go.Proofs.Qxb6628961a
