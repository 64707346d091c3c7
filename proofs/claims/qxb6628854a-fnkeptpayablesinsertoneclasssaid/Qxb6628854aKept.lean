import Derived.Test.Qxb6628854aParts
import Derived.WalkSpells
import Derived.WalkLawsBesides
namespace Go.Proofs.Qxb6628854a
open Go.RowKit

theorem news_one {w : World} {a : Nat} {x y : Value} (h0 : w.cell? ⟨a, 0, none⟩ = some x) (h1 : w.cell? ⟨a, 1, none⟩ = some y) :
    ∀ j u, [x, y][j]? = some u → w.cell? ((⟨a, 0, none⟩ : Addr).add j) = some u := by
  intro j u hj
  rw [Addr.add_lit]
  match j, hj with
  | 0, hj => simp at hj; subst hj; simpa using h0
  | 1, hj => simp at hj; subst hj; simpa using h1
theorem news_two {w : World} {a : Nat} {x y z t : Value} (h0 : w.cell? ⟨a, 0, none⟩ = some x) (h1 : w.cell? ⟨a, 1, none⟩ = some y) (h2 : w.cell? ⟨a, 2, none⟩ = some z) (h3 : w.cell? ⟨a, 3, none⟩ = some t) :
    ∀ j u, [x, y, z, t][j]? = some u → w.cell? ((⟨a, 0, none⟩ : Addr).add j) = some u := by
  intro j u hj
  rw [Addr.add_lit]
  match j, hj with
  | 0, hj => simp at hj; subst hj; simpa using h0
  | 1, hj => simp at hj; subst hj; simpa using h1
  | 2, hj => simp at hj; subst hj; simpa using h2
  | 3, hj => simp at hj; subst hj; simpa using h3

theorem oneCell2 {x y : ByteArray} : ∀ u ∈ [Value.string x, Value.string y], u.oneCell' = true := by
  intro u hu; simp at hu; rcases hu with rfl | rfl <;> rfl
theorem oneCell4 {x y z t : ByteArray} : ∀ u ∈ [Value.string x, Value.string y, Value.string z, Value.string t], u.oneCell' = true := by
  intro u hu; simp at hu; rcases hu with rfl | rfl | rfl | rfl <;> rfl
theorem kept_hit {b : Bool} {c : Nat → ByteArray} {p : Nat → Bool} {k : Nat} (hp : p k = true) {w1 : World} {B : Nat} {v : Value}
    (h : w1.ownsRow B 35 2 v ((kept b c p k).length + 1) (payCells (kept b c p k) ++ [.string sales, .string (c k)])) :
    w1.ownsRow B 35 2 v (kept b c p (k + 1)).length (payCells (kept b c p (k + 1))) := by
  rw [kept_succ, hp]
  simpa [payCells] using h
theorem kept_miss {b : Bool} {c : Nat → ByteArray} {p : Nat → Bool} {k : Nat} (hp : p k = false) {w1 : World} {B : Nat} {v : Value}
    (h : w1.ownsRow B 35 2 v (kept b c p k).length (payCells (kept b c p k))) :
    w1.ownsRow B 35 2 v (kept b c p (k + 1)).length (payCells (kept b c p (k + 1))) := by
  rw [kept_succ, hp]
  simpa using h
theorem kept_zero {c : Nat → ByteArray} {p : Nat → Bool} {w1 : World} {B : Nat} {v : Value}
    (h : w1.ownsRow B 35 2 v (0 + 2) ([] ++ [.string mgmt, .string ⟨#[]⟩, .string cust, .string ⟨#[]⟩])) :
    w1.ownsRow B 35 2 v (kept true c p 0).length (payCells (kept true c p 0)) := h

set_option maxHeartbeats 1000000 in
theorem kept_any (fo : Option Addr) (ao : Option Addr) (n cap : Nat) (c : Nat → ByteArray) (q : Nat → Option Addr) (w : World) (hn : n ≤ 65537)
    (hrow : PairRow w ao n (fun i => .string (c i)) (fun i => .pointer (q i))) :
    Calls Try.prog 9 #[.pointer fo, .slice ao n cap] w fun e w' =>
      ∃ v, e = .returned v ∧ w'.ownsRow w.heap.size 35 2 v (kept fo.isSome c (fun i => (q i).isSome) n).length (payCells (kept fo.isSome c (fun i => (q i).isSome) n)) ∧ Below w.heap.size w w' := by
  obtain ⟨i0, hi, hz0, hz1, hz2⟩ := info_parts Try.info35
  cases fo with
  | none =>
    go_enter Try.func9, Try.ntmps9
    go_wp2
    go_loopw [5, 17] (fun v i wr => ∃ k : Nat, k ≤ n ∧ i = .int .i64 k ∧ wr.ownsRow w.heap.size 35 2 v (kept false c (fun i => (q i).isSome) k).length (payCells (kept false c (fun i => (q i).isSome) k)) ∧ Below w.heap.size w wr)
      (fun _ i _ => n - (intOf i).toNat)
    case atStart => exact ⟨0, Nat.zero_le _, rfl, World.ownsRow_nil _ _ _ _, Below.refl _ _⟩
    case round =>
      obtain ⟨k, hk, rfl, hown, hnx⟩ := hrel
      by_cases hlt : k < n
      · obtain ⟨b, off, rfl, hb, h1, h2⟩ := hrow k hlt
        have g1 : wr.cell? ⟨b, off + k * 2, none⟩ = some (.string (c k)) := (hnx.cell (by exact hb)).trans h1
        have hle := kept_le false c (fun i => (q i).isSome) k
        have hsz := hnx.size
        cases hq : q k with
        | none =>
          have g2 : wr.cell? ⟨b, off + k * 2 + 1, none⟩ = some (.pointer none) := (hnx.cell (by exact hb)).trans (by rw [h2]; simp only [hq])
          have R := kept_miss (b := false) (c := c) (p := fun i => (q i).isSome) (k := k) (by simp [hq]) (hown.alloc (.cells #[.string (c k), .pointer none] 48))
          clear h1 h2 hq
          go_wp2
          go_roundw
          case rel => exact ⟨k + 1, by omega, by go_num, R, hnx.alloc hsz _⟩
          case measure => simp [intOf]; omega
        | some qa =>
          have g2 : wr.cell? ⟨b, off + k * 2 + 1, none⟩ = some (.pointer (some qa)) := (hnx.cell (by exact hb)).trans (by rw [h2]; simp only [hq])
          have HQ : Hid ((fun i => (q i).isSome) k = true) := by simp [Hid, hq]
          clear h1 h2 hq
          go_wp2_with (at_builtin; refine wpList_append_own _ rfl (.tmp 24) (.tmp 28) 30 rfl w.heap.size 35 i0 (.agg #[.string ⟨#[]⟩, .string ⟨#[]⟩]) 2 32 Try.underlying30 hi hz0 hz1 hz2 rfl (by decide) _ _ _ rfl ((hown.alloc _).alloc _) ⟨wr.heap.size + 1, 0, none⟩ 1 1 [.string sales, .string (c k)] rfl rfl (news_one (by simp [sales]) (by simp)) oneCell2 (by unfold maxLen; omega) (by omega) (by simp; omega) ?_; intro v' w1 hown' hgrow _)
          have R := kept_hit HQ.out hown'
          have S : Below w.heap.size w w1 := ((hnx.alloc hsz _).alloc (by simp; omega) _).grown hgrow (by simp; omega) (fun j hj => (hown.lt j hj).1)
          clear hown' hgrow hown
          go_wp2
          go_roundw
          case rel => exact ⟨k + 1, by omega, by go_num, R, S⟩
          case measure => simp [intOf]; omega
      · have hkn : k = n := by omega
        subst hkn
        go_wp2
        go_ret
        exact ⟨_, rfl, hown, hnx⟩
  | some fa =>
    go_enter Try.func9, Try.ntmps9
    go_wp2_with (at_builtin; refine wpList_append_own _ rfl (.tmp 10) (.tmp 13) 30 rfl w.heap.size 35 i0 (.agg #[.string ⟨#[]⟩, .string ⟨#[]⟩]) 2 32 Try.underlying30 hi hz0 hz1 hz2 rfl (by decide) (.slice none 0 0) 0 [] rfl (World.ownsRow_nil _ _ _ _) ⟨w.heap.size, 0, none⟩ 2 2 [.string mgmt, .string ⟨#[]⟩, .string cust, .string ⟨#[]⟩] rfl rfl (news_two (by simp [mgmt]) (by simp) (by simp [cust]) (by simp)) oneCell4 (by decide) (by decide) (by simp) ?_; intro v0 w0 hown0 hgrow0 _)
    have R0 := kept_zero (c := c) (p := fun i => (q i).isSome) hown0
    have S0 : Below w.heap.size w w0 := ((Below.refl _ _).alloc (Nat.le_refl _) _).grown hgrow0 (by simp) (fun j hj => by cases hj)
    clear hown0 hgrow0
    go_loopw [5, 17] (fun v i wr => ∃ k : Nat, k ≤ n ∧ i = .int .i64 k ∧ wr.ownsRow w.heap.size 35 2 v (kept true c (fun i => (q i).isSome) k).length (payCells (kept true c (fun i => (q i).isSome) k)) ∧ Below w.heap.size w wr)
      (fun _ i _ => n - (intOf i).toNat)
    case atStart => exact ⟨0, Nat.zero_le _, rfl, R0, S0⟩
    case round =>
      obtain ⟨k, hk, rfl, hown, hnx⟩ := hrel
      by_cases hlt : k < n
      · obtain ⟨b, off, rfl, hb, h1, h2⟩ := hrow k hlt
        have g1 : wr.cell? ⟨b, off + k * 2, none⟩ = some (.string (c k)) := (hnx.cell (by exact hb)).trans h1
        have hle := kept_le true c (fun i => (q i).isSome) k
        have hsz := hnx.size
        cases hq : q k with
        | none =>
          have g2 : wr.cell? ⟨b, off + k * 2 + 1, none⟩ = some (.pointer none) := (hnx.cell (by exact hb)).trans (by rw [h2]; simp only [hq])
          have R := kept_miss (b := true) (c := c) (p := fun i => (q i).isSome) (k := k) (by simp [hq]) (hown.alloc (.cells #[.string (c k), .pointer none] 48))
          clear h1 h2 hq
          go_wp2
          go_roundw
          case rel => exact ⟨k + 1, by omega, by go_num, R, hnx.alloc hsz _⟩
          case measure => simp [intOf]; omega
        | some qa =>
          have g2 : wr.cell? ⟨b, off + k * 2 + 1, none⟩ = some (.pointer (some qa)) := (hnx.cell (by exact hb)).trans (by rw [h2]; simp only [hq])
          have HQ : Hid ((fun i => (q i).isSome) k = true) := by simp [Hid, hq]
          clear h1 h2 hq
          go_wp2_with (at_builtin; refine wpList_append_own _ rfl (.tmp 24) (.tmp 28) 30 rfl w.heap.size 35 i0 (.agg #[.string ⟨#[]⟩, .string ⟨#[]⟩]) 2 32 Try.underlying30 hi hz0 hz1 hz2 rfl (by decide) _ _ _ rfl ((hown.alloc _).alloc _) ⟨wr.heap.size + 1, 0, none⟩ 1 1 [.string sales, .string (c k)] rfl rfl (news_one (by simp [sales]) (by simp)) oneCell2 (by unfold maxLen; omega) (by omega) (by simp; omega) ?_; intro v' w1 hown' hgrow _)
          have R := kept_hit HQ.out hown'
          have S : Below w.heap.size w w1 := ((hnx.alloc hsz _).alloc (by simp; omega) _).grown hgrow (by simp; omega) (fun j hj => (hown.lt j hj).1)
          clear hown' hgrow hown
          go_wp2
          go_roundw
          case rel => exact ⟨k + 1, by omega, by go_num, R, S⟩
          case measure => simp [intOf]; omega
      · have hkn : k = n := by omega
        subst hkn
        go_wp2
        go_ret
        exact ⟨_, rfl, hown, hnx⟩

end Go.Proofs.Qxb6628854a
