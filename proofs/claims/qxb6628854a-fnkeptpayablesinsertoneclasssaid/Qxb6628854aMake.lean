import Derived.Test.Qxb6628854aSame
namespace Go.Proofs.Qxb6628854a
open Go.RowKit

/-- A slice of strings: element i's cell. -/
def StrRow (w : World) (ao : Option Addr) (n : Nat) (s : Nat → ByteArray) : Prop :=
  ∀ i, i < n → ∃ b off, ao = some ⟨b, off, none⟩ ∧ b < w.heap.size ∧ w.cell? ⟨b, off + i, none⟩ = some (.string (s i))

theorem StrRow.below {w w' : World} {ao : Option Addr} {n : Nat} {s : Nat → ByteArray} (h : StrRow w ao n s) (hb : Below w.heap.size w w') : StrRow w' ao n s := by
  intro i hi
  obtain ⟨b, off, e, hlt, h1⟩ := h i hi
  exact ⟨b, off, e, Nat.lt_of_lt_of_le hlt hb.size, (hb.cell (p := ⟨b, off + i, none⟩) hlt).trans h1⟩

theorem owns_cell {w : World} {B e size g n cap : Nat} {xs : List Value} (h : w.ownsRow B e size (.slice (some ⟨g, 0, none⟩) n cap) n xs) (j : Nat) (hj : j < n * size) : ∃ u, w.cell? ⟨g, j, none⟩ = some u := by
  have hl := h.1
  exact ⟨xs[j]'(by omega), by rw [h.cellAt j hj, List.getElem?_eq_getElem (by omega)]⟩

set_option maxHeartbeats 1000000 in
theorem fees_any (has : Bool) (ao : Option Addr) (n cap : Nat) (s : Nat → ByteArray) (w : World) (hn : n ≤ 65536) (hrow : StrRow w ao n s) :
    Calls Try.prog 7 #[.bool has, .slice ao n cap] w fun e w' => ∃ fo : Option Addr, e = .returned (.pointer fo) ∧ fo.isSome = has ∧ Below w.heap.size w w' := by
  obtain ⟨i0, hi, hz0, hz1, hz2⟩ := info_parts Try.info9
  cases has with
  | false =>
    go_enter Try.func7, Try.ntmps7
    go_wp2
    go_ret
    exact ⟨none, rfl, rfl, Below.refl _ _⟩
  | true =>
    cases ao with
    | none =>
      go_enter Try.func7, Try.ntmps7
      go_wp2
      go_ret
      exact ⟨_, rfl, rfl, (Below.refl _ _).alloc (Nat.le_refl _) _⟩
    | some aa =>
      go_enter Try.func7, Try.ntmps7
      go_wp2_with (at_make; refine wpList_make_full _ rfl _ _ 22 rfl w.heap.size 9 i0 (.string ⟨#[]⟩) 1 Try.underlying22 hi hz0 hz1 _ _ _ _ n rfl rfl rfl rfl (by rw [hz2]; omega) (by unfold maxLen; omega) (Nat.le_refl _) ?_; intro w0 hown0 hgrow0)
      have S0 : Below w.heap.size w w0 := (Below.refl _ _).grown hgrow0 (Nat.le_refl _) (fun j hj => by cases hj)
      clear hgrow0
      go_loopw [6] (fun i wr => ∃ (k : Nat) (xs : List Value), k ≤ n ∧ i = .int .i64 k ∧ wr.ownsRow w.heap.size 9 1 (.slice (some ⟨w.heap.size, 0, none⟩) n n) n xs ∧ Below w.heap.size w wr)
        (fun i _ => n - (intOf i).toNat)
      case atStart => exact ⟨0, _, Nat.zero_le _, rfl, hown0, S0⟩
      case round =>
        clear hown0 S0
        obtain ⟨k, xs, hk, rfl, hown, hnx⟩ := hrel
        have hsz := hnx.size
        by_cases hlt : k < n
        · obtain ⟨b, off, hao, hbb, h1⟩ := hrow k hlt
          obtain rfl := Option.some.inj hao
          have g1 : wr.cell? ⟨b, off + k, none⟩ = some (.string (s k)) := (hnx.cell (by exact hbb)).trans h1
          obtain ⟨u, g2⟩ := owns_cell hown k (by omega)
          have g3 := hown.frozenAt k
          clear h1
          go_wp2
          go_roundw
          case rel => exact ⟨k + 1, _, by omega, by go_num, (hown.stored k _).1, hnx.setCell (Nat.le_refl _) _⟩
          case measure => simp [intOf]; omega
        · go_wp2
          go_ret
          exact ⟨_, rfl, rfl, hnx.alloc hsz _⟩

/-- What the first k classes' cells hold; behind them the pointers are nil. -/
def ClsTo (xs : List Value) (n k : Nat) (c : Nat → ByteArray) (p : Nat → Bool) : Prop :=
  ∀ i, i < n → ∃ o : Option Addr, xs[i * 2 + 1]? = some (.pointer o) ∧ (i < k → xs[i * 2]? = some (.string (c i)) ∧ o.isSome = p i) ∧ (k ≤ i → o = none)

theorem clsTo_start (n : Nat) (c : Nat → ByteArray) (p : Nat → Bool) : ClsTo (madeCells #[.string ⟨#[]⟩, .pointer none] (n * 2)).toList n 0 c p := by
  intro i hi
  refine ⟨none, ?_, by omega, fun _ => rfl⟩
  have h1 : i * 2 + 1 < n * 2 := by omega
  have h2 : (i * 2 + 1) % 2 = 1 := by omega
  simp [madeCells, h1, h2]

theorem clsTo_miss {xs : List Value} {n k : Nat} {c : Nat → ByteArray} {p : Nat → Bool} (h : ClsTo xs n k c p) (hl : xs.length = n * 2) (hk : k < n) (hp : p k = false) : ClsTo (xs.set (k * 2) (.string (c k))) n (k + 1) c p := by
  intro i hi
  obtain ⟨o, h1, h2, h3⟩ := h i hi
  refine ⟨o, by rw [List.getElem?_set_ne (by omega)]; exact h1, fun hik => ?_, fun hik => h3 (by omega)⟩
  by_cases e : i = k
  · subst e
    refine ⟨by rw [List.getElem?_set_self (by omega)], by rw [h3 (Nat.le_refl _), hp]; rfl⟩
  · rw [List.getElem?_set_ne (by omega)]
    exact h2 (by omega)

theorem clsTo_hit {xs : List Value} {n k : Nat} {c : Nat → ByteArray} {p : Nat → Bool} {a : Addr} (h : ClsTo xs n k c p) (hl : xs.length = n * 2) (hk : k < n) (hp : p k = true) : ClsTo ((xs.set (k * 2) (.string (c k))).set (k * 2 + 1) (.pointer (some a))) n (k + 1) c p := by
  intro i hi
  obtain ⟨o, h1, h2, h3⟩ := h i hi
  by_cases e : i = k
  · subst e
    refine ⟨some a, by rw [List.getElem?_set_self (by rw [List.length_set]; omega)], fun _ => ⟨?_, by rw [hp]; rfl⟩, fun hik => by omega⟩
    rw [List.getElem?_set_ne (by omega), List.getElem?_set_self (by omega)]
  · refine ⟨o, ?_, fun hik => ?_, fun hik => h3 (by omega)⟩
    · rw [List.getElem?_set_ne (by omega), List.getElem?_set_ne (by omega)]; exact h1
    · rw [List.getElem?_set_ne (by omega), List.getElem?_set_ne (by omega)]; exact h2 (by omega)

theorem clsTo_end {w : World} {B g n : Nat} {xs : List Value} {c : Nat → ByteArray} {p : Nat → Bool} (h : ClsTo xs n n c p) (hown : w.ownsRow B 48 2 (.slice (some ⟨g, 0, none⟩) n n) n xs) :
    ∃ q : Nat → Option Addr, PairRow w (some ⟨g, 0, none⟩) n (fun i => .string (c i)) (fun i => .pointer (q i)) ∧ ∀ i, i < n → (q i).isSome = p i := by
  refine ⟨fun i => if hi : i < n then (h i hi).choose else none, fun i hi => ⟨g, 0, rfl, ?_, ?_, ?_⟩, fun i hi => ?_⟩
  · exact (hown.lt g rfl).2
  · have := hown.cellAt (i * 2) (by omega)
    rw [((h i hi).choose_spec.2.1 hi).1] at this
    simpa using this
  · have := hown.cellAt (i * 2 + 1) (by omega)
    rw [(h i hi).choose_spec.1] at this
    simpa [hi] using this
  · have := ((h i hi).choose_spec.2.1 hi).2
    simpa [hi] using this

set_option maxHeartbeats 1000000 in
theorem classes_any (ao : Option Addr) (n cap : Nat) (c : Nat → ByteArray) (p : Nat → Bool) (w : World) (hn : n ≤ 65537) (hrow : PairRow w ao n (fun i => .string (c i)) (fun i => .bool (p i))) :
    Calls Try.prog 8 #[.slice ao n cap] w fun e w' => ∃ (co : Option Addr) (q : Nat → Option Addr), e = .returned (.slice co n n) ∧ PairRow w' co n (fun i => .string (c i)) (fun i => .pointer (q i)) ∧ (∀ i, i < n → (q i).isSome = p i) ∧ Below w.heap.size w w' := by
  obtain ⟨i0, hi, hz0, hz1, hz2⟩ := info_parts Try.info48
  have hnil := fun (wx : World) (a : Option Addr) (l cc : Nat) => Lib.run_eql_slice_nil (P := Try.prog) wx 23 37 a l cc 0 0 Try.underlying23
  cases ao with
  | none =>
    have hn0 : n = 0 := by
      cases n with
      | zero => rfl
      | succ n => obtain ⟨_, _, h, _⟩ := hrow 0 (by omega); cases h
    subst hn0
    go_enter Try.func8, Try.ntmps8
    go_wp2
    go_ret
    exact ⟨none, fun _ => none, rfl, fun i hi => by omega, fun i hi => by omega, Below.refl _ _⟩
  | some aa =>
    go_enter Try.func8, Try.ntmps8
    go_wp2_with (at_make; refine wpList_make_full _ rfl _ _ 28 rfl w.heap.size 48 i0 (.agg #[.string ⟨#[]⟩, .pointer none]) 2 Try.underlying28 hi hz0 hz1 _ _ _ _ n rfl rfl rfl rfl (by rw [hz2]; omega) (by unfold maxLen; omega) (Nat.le_refl _) ?_; intro w0 hown0 hgrow0)
    have S0 : Below w.heap.size w w0 := (Below.refl _ _).grown hgrow0 (Nat.le_refl _) (fun j hj => by cases hj)
    have C0 := clsTo_start n c p
    clear hgrow0
    go_loopw [4] (fun i wr => ∃ (k : Nat) (xs : List Value), k ≤ n ∧ i = .int .i64 k ∧ wr.ownsRow w.heap.size 48 2 (.slice (some ⟨w.heap.size, 0, none⟩) n n) n xs ∧ ClsTo xs n k c p ∧ Below w.heap.size w wr)
      (fun i _ => n - (intOf i).toNat)
    case atStart => exact ⟨0, _, Nat.zero_le _, rfl, hown0, C0, S0⟩
    case round =>
      clear hown0 S0 C0
      obtain ⟨k, xs, hk, rfl, hown, hcls, hnx⟩ := hrel
      have hsz := hnx.size
      have hlen := hown.1
      have HLen : Hid (xs.length = n * 2) := hlen
      clear hlen
      by_cases hlt : k < n
      · obtain ⟨b, off, hao, hbb, h1, h2⟩ := hrow k hlt
        obtain rfl := Option.some.inj hao
        have g1 : wr.cell? ⟨b, off + k * 2, none⟩ = some (.string (c k)) := (hnx.cell (by exact hbb)).trans h1
        obtain ⟨u, g3⟩ := owns_cell hown (k * 2) (by omega)
        have g4 := hown.frozenAt (k * 2)
        have hne : b ≠ w.heap.size := by omega
        have hgl := hown.lt w.heap.size rfl
        cases hp : p k with
        | false =>
          have g2 : wr.cell? ⟨b, off + k * 2 + 1, none⟩ = some (.bool false) := (hnx.cell (by exact hbb)).trans (by rw [h2]; simp only [hp])
          have R := (hown.stored (k * 2) (.string (c k))).1
          have C := clsTo_miss hcls HLen.out hlt hp
          have S : Below w.heap.size w (wr.setCell ⟨w.heap.size, k * 2, none⟩ (.string (c k))) := hnx.setCell (Nat.le_refl _) _
          clear h1 h2 hp
          go_wp2
          go_roundw
          case rel => exact ⟨k + 1, _, by omega, by go_num, R, C, S⟩
          case measure => simp [intOf]; omega
        | true =>
          have g2 : wr.cell? ⟨b, off + k * 2 + 1, none⟩ = some (.bool true) := (hnx.cell (by exact hbb)).trans (by rw [h2]; simp only [hp])
          have R := (hown.stored (k * 2) (.string (c k))).1
          obtain ⟨u', g5⟩ := owns_cell R (k * 2 + 1) (by omega)
          have g6 := R.frozenAt (k * 2 + 1)
          have S : Below w.heap.size w (wr.setCell ⟨w.heap.size, k * 2, none⟩ (.string (c k))) := hnx.setCell (Nat.le_refl _) _
          have HP : Hid (p k = true) := hp
          clear h1 h2 hp
          go_wp2
          go_roundw
          case rel => exact ⟨k + 1, _, by omega, by go_num, (R.stored (k * 2 + 1) _).1.alloc _, clsTo_hit hcls HLen.out hlt HP.out, (S.setCell (p := ⟨w.heap.size, k * 2 + 1, none⟩) (Nat.le_refl _) _).alloc (by simp; omega) _⟩
          case measure => simp [intOf]; omega
      · have hkn : n = k := by omega
        subst hkn
        obtain ⟨q, hq1, hq2⟩ := clsTo_end hcls hown
        go_wp2
        go_ret
        exact ⟨_, q, rfl, hq1, hq2, hnx⟩

end Go.Proofs.Qxb6628854a
