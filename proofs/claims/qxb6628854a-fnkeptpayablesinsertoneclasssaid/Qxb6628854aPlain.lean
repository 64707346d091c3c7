/-
  Seat b6628854a: the plain laws on the lists of payables, and the contract of KeptPayables as the laws use it.
-/
import Derived.Test.Qxb6628854aBytes
namespace Go.Proofs.Qxb6628854a
open Go.RowKit

theorem tailPays_congr {c : Nat → ByteArray} {p q : Nat → Bool} {n : Nat} (h : ∀ i, i < n → q i = p i) : tailPays c q n = tailPays c p n := by
  induction n with
  | zero => rfl
  | succ n ih => rw [tailPays_succ, tailPays_succ, ih (fun i hi => h i (by omega)), h n (by omega)]
theorem tailPays_add (c : Nat → ByteArray) (p : Nat → Bool) (k t : Nat) : tailPays c p (k + t) = tailPays c p k ++ tailPays (fun i => c (k + i)) (fun i => p (k + i)) t := by
  induction t with
  | zero => simp [tailPays]
  | succ t ih => rw [← Nat.add_assoc, tailPays_succ, ih, tailPays_succ, List.append_assoc]
theorem kept_split (has : Bool) (c : Nat → ByteArray) (p : Nat → Bool) (k m : Nat) (h : k ≤ m) :
    kept has c p m = kept has c p k ++ kept false (fun i => c (k + i)) (fun i => p (k + i)) (m - k) := by
  have : m = k + (m - k) := by omega
  unfold kept
  rw [this, tailPays_add, ← this]
  simp [headPays, List.append_assoc]
theorem tailPays_mono (c : Nat → ByteArray) (p : Nat → Bool) (t n : Nat) (h : t ≤ n) : ∃ r, tailPays c p n = tailPays c p t ++ r :=
  ⟨tailPays (fun i => c (t + i)) (fun i => p (t + i)) (n - t), by rw [← tailPays_add, show t + (n - t) = n from by omega]⟩
/-- The t-th class pays: its payable stands behind those of the classes before it. -/
theorem tailPays_get (c : Nat → ByteArray) (p : Nat → Bool) (t n : Nat) (h : t < n) (hp : p t = true) :
    (tailPays c p t).length < (tailPays c p n).length ∧ (tailPays c p n)[(tailPays c p t).length]? = some (sales, c t) := by
  obtain ⟨r, hr⟩ := tailPays_mono c p (t + 1) n (by omega)
  rw [tailPays_succ, hp] at hr
  rw [hr]
  simp

theorem PairRow.take {w : World} {ao : Option Addr} {n : Nat} {f g : Nat → Value} (h : PairRow w ao n f g) (k : Nat) (hk : k ≤ n) : PairRow w ao k f g := fun i hi => h i (by omega)
theorem PairRow.cut {w : World} {ao bo : Option Addr} {n : Nat} {f g : Nat → Value} (h : PairRow w ao n f g) (k : Nat) (hk : k ≤ n) (hbo : ¬ n = k → bo = ao.map (·.add (k * 2))) :
    PairRow w bo (n - k) (fun i => f (k + i)) (fun i => g (k + i)) := by
  intro i hi
  obtain ⟨b, off, e, hlt, h1, h2⟩ := h (k + i) (by omega)
  refine ⟨b, off + k * 2, ?_, hlt, ?_, ?_⟩
  · rw [hbo (by omega), e]; simp [Addr.add_lit]
  · rw [← h1]; congr 2; omega
  · rw [← h2]; congr 2; omega

theorem kept_calls (has : Bool) (fo ao : Option Addr) (n cap : Nat) (c : Nat → ByteArray) (p : Nat → Bool) (q : Nat → Option Addr) (w : World) (hn : n ≤ 65537)
    (hrow : PairRow w ao n (fun i => .string (c i)) (fun i => .pointer (q i))) (hfo : fo.isSome = has) (hqp : ∀ i, i < n → (q i).isSome = p i) :
    Calls Try.prog 9 #[.pointer fo, .slice ao n cap] w fun e w' =>
      ∃ o cp l, e = .returned (.slice o l cp) ∧ (kept has c p n).length = l ∧ PayRow w' o (kept has c p n) ∧ Below w.heap.size w w' := by
  refine (kept_any fo ao n cap c q w hn hrow).mono ?_
  rintro e w' ⟨v, rfl, hown, hb⟩
  have e1 : kept fo.isSome c (fun i => (q i).isSome) n = kept has c p n := by
    unfold kept; rw [hfo, tailPays_congr hqp]
  rw [e1] at hown
  obtain ⟨o, cp, rfl, hp⟩ := ownsRow_pay hown
  exact ⟨o, cp, _, rfl, rfl, hp, hb⟩

end Go.Proofs.Qxb6628854a
