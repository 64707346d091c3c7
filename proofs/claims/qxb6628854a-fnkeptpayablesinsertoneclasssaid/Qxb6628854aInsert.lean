/-
  Seat b6628854a: the walk of FnKeptPayablesInsertOneClass (f4).
-/
import Derived.Test.Qxb6628854aIns
import Derived.WalkSmall
namespace Go.Proofs.Qxb6628854a
open Go.RowKit

set_option maxHeartbeats 4000000 in
set_option maxRecDepth 100000 in
theorem insert_walk (has : Bool) (kk : Int) (code : ByteArray) (pays : Bool) (ao bo : Option Addr) (n m ca cb : Nat) (s : Nat → ByteArray) (c : Nat → ByteArray) (p : Nat → Bool) (w : World) (hn : n ≤ 9223372036854775807) (hm : m ≤ 9223372036854775807)
    (ha : StrRow w ao n s) (hb : PairRow w bo m (fun i => .string (c i)) (fun i => .bool (p i))) :
    Calls Try.prog 4 #[.bool has, .slice ao n ca, .slice bo m cb, .int .i64 kk, .string code, .bool pays] w fun e w' => e = .returned (.bool true) ∧ Below w.heap.size w w' := by
  obtain ⟨i0, hi, hz0, hz1, hz2⟩ := info_parts Try.info37
  go_enter Try.func4, Try.ntmps4
  go_wp2_with fail
  refine (bytes2_any has kk code pays ao bo n m ca cb s c _ w hn hm ha hb).mono ?_
  rintro e w' ⟨⟨b, rfl⟩, hw⟩; subst w'
  cases b with
  | false =>
    go_wp2
    go_ret
    exact ⟨rfl, Below.refl _ _⟩
  | true =>
  by_cases hn2 : n ≤ 65536
  case neg =>
    go_wp2
    go_ret
    exact ⟨rfl, Below.refl _ _⟩
  by_cases hm2 : m ≤ 65536
  case neg =>
    go_wp2
    go_ret
    exact ⟨rfl, Below.refl _ _⟩
  by_cases hc2 : code.size ≤ 65536
  case neg =>
    go_wp2
    go_ret
    exact ⟨rfl, Below.refl _ _⟩
  go_wp2_with fail
  refine (within_any ao bo n m ca cb s c _ code w hn hm ha hb).mono ?_
  rintro e w' ⟨⟨b, rfl⟩, hw⟩; subst w'
  cases b with
  | false =>
    go_wp2
    go_ret
    exact ⟨rfl, Below.refl _ _⟩
  | true =>
  by_cases hk0 : kk < 0
  case pos =>
    go_wp2
    go_ret
    exact ⟨rfl, Below.refl _ _⟩
  obtain ⟨k, rfl⟩ := Int.eq_ofNat_of_zero_le (show 0 ≤ kk by omega)
  by_cases hkm : k ≤ m
  case neg =>
    go_wp2
    go_ret
    exact ⟨rfl, Below.refl _ _⟩
  clear hk0
  go_wp2_with fail
  refine (fees_any has ao n ca s w hn2 ha).mono ?_
  rintro e w1 ⟨fo, rfl, hfo, hb1⟩
  have HFO : Hid (fo.isSome = has) := hfo
  clear hfo
  have cb1 := hb.below hb1
  go_wp2_with fail
  refine (classes_any bo m cb c p w1 (by omega) cb1).mono ?_
  rintro e w2 ⟨co, q, rfl, hq, hqp, hb2⟩
  have HQP : Hid (∀ i, i < m → (q i).isSome = p i) := hqp
  clear hqp
  have cb2 := cb1.below hb2
  have B2 := hb1.trans (hb2.mono hb1.size)
  clear cb1 hb1 hb2
  go_wp2_with (at_make; refine wpList_make_own _ rfl _ _ 23 rfl w2.heap.size 37 i0 (.agg #[.string ⟨#[]⟩, .bool false]) 2 Try.underlying23 hi hz0 hz1 _ _ _ (m + 1) rfl rfl (by omega) (by rw [hz2]; omega) (by unfold maxLen; omega) (Nat.le_refl _) ?_; intro w0 hown0 hgrow0)
  have R0 : w0.ownsRow w2.heap.size 37 2 (.slice (some ⟨w2.heap.size, 0, none⟩) 0 (m + 1)) 0 (clsCells (insAt c code k) (insAt p pays k) 0) := hown0
  have S0 : Below w2.heap.size w2 w0 := (Below.refl _ _).grown hgrow0 (Nat.le_refl _) (fun j hj => by cases hj)
  clear hown0 hgrow0
  go_loopw [15, 16] (fun v i wr => ∃ t : Nat, t ≤ k ∧ i = .int .i64 t ∧ wr.ownsRow w2.heap.size 37 2 v t (clsCells (insAt c code k) (insAt p pays k) t) ∧ Below w2.heap.size w2 wr)
      (fun _ i _ => k - (intOf i).toNat)
  case atStart => exact ⟨0, Nat.zero_le _, rfl, R0, S0⟩
  clear R0 S0
  case round =>
  obtain ⟨t, ht, rfl, hown, hnx⟩ := hrel
  have hsz := hnx.size
  by_cases hlt : t < k
  case pos =>
    obtain ⟨b, off, rfl, hbb, h1, h2⟩ := cb2 t (by omega)
    have g1 : wr.cell? ⟨b, off + t * 2, none⟩ = some (.string (c t)) := (hnx.cell (by exact hbb)).trans h1
    have g2 : wr.cell? ⟨b, off + t * 2 + 1, none⟩ = some (.bool (p t)) := (hnx.cell (by exact hbb)).trans h2
    clear h1 h2
    go_wp2_with (at_builtin; refine wpList_append_own _ rfl (.tmp 74) (.tmp 79) 23 rfl w2.heap.size 37 i0 (.agg #[.string ⟨#[]⟩, .bool false]) 2 24 Try.underlying23 hi hz0 hz1 hz2 rfl (by decide) _ _ _ rfl (hown.alloc _) ⟨wr.heap.size, 0, none⟩ 1 1 [.string (c t), .bool (p t)] rfl rfl (news_one (by simp) (by simp)) oneCellC (by unfold maxLen; omega) (by omega) (by simp; omega) ?_; intro v' w1 hown' hgrow _)
    have R := cls_hit (c := insAt c code k) (p := insAt p pays k) (insAt_lt hlt) (insAt_lt hlt) hown'
    have S : Below w2.heap.size w2 w1 := (hnx.alloc hsz _).grown hgrow (by simp; omega) (fun j hj => (hown.lt j hj).1)
    clear hown' hgrow hown
    go_wp2
    go_roundw
    case rel => exact ⟨t + 1, by omega, by go_num, R, S⟩
    case measure => simp [intOf]; omega
  obtain rfl : k = t := by omega
  clear hlt ht
  go_wp2_with (at_builtin; refine wpList_append_own _ rfl (.tmp 81) (.tmp 85) 23 rfl w2.heap.size 37 i0 (.agg #[.string ⟨#[]⟩, .bool false]) 2 24 Try.underlying23 hi hz0 hz1 hz2 rfl (by decide) _ _ _ rfl (hown.alloc _) ⟨wr.heap.size, 0, none⟩ 1 1 [.string code, .bool pays] rfl rfl (news_one (by simp) (by simp)) oneCellC (by unfold maxLen; omega) (by omega) (by simp; omega) ?_; intro v' w1 hown' hgrow _)
  have R0 := cls_hit (c := insAt c code k) (p := insAt p pays k) insAt_at insAt_at hown'
  have S0 : Below w2.heap.size w2 w1 := (hnx.alloc hsz _).grown hgrow (by simp; omega) (fun j hj => (hown.lt j hj).1)
  clear hown' hgrow hown hnx hsz
  go_loopw [15, 17] (fun v i wr => ∃ t : Nat, k ≤ t ∧ t ≤ m ∧ i = .int .i64 t ∧ wr.ownsRow w2.heap.size 37 2 v (t + 1) (clsCells (insAt c code k) (insAt p pays k) (t + 1)) ∧ Below w2.heap.size w2 wr)
      (fun _ i _ => m - (intOf i).toNat)
  case atStart => exact ⟨k, Nat.le_refl _, hkm, rfl, R0, S0⟩
  clear R0 S0
  case round =>
  obtain ⟨t, hkt, ht, rfl, hown, hnx⟩ := hrel
  have hsz := hnx.size
  by_cases hlt : t < m
  case pos =>
    obtain ⟨b, off, rfl, hbb, h1, h2⟩ := cb2 t (by omega)
    have g1 : wr.cell? ⟨b, off + t * 2, none⟩ = some (.string (c t)) := (hnx.cell (by exact hbb)).trans h1
    have g2 : wr.cell? ⟨b, off + t * 2 + 1, none⟩ = some (.bool (p t)) := (hnx.cell (by exact hbb)).trans h2
    clear h1 h2
    go_wp2_with (at_builtin; refine wpList_append_own _ rfl (.tmp 94) (.tmp 99) 23 rfl w2.heap.size 37 i0 (.agg #[.string ⟨#[]⟩, .bool false]) 2 24 Try.underlying23 hi hz0 hz1 hz2 rfl (by decide) _ _ _ rfl (hown.alloc _) ⟨wr.heap.size, 0, none⟩ 1 1 [.string (c t), .bool (p t)] rfl rfl (news_one (by simp) (by simp)) oneCellC (by unfold maxLen; omega) (by omega) (by simp; omega) ?_; intro v' w1 hown' hgrow _)
    have R := cls_hit (c := insAt c code k) (p := insAt p pays k) (insAt_gt hkt) (insAt_gt hkt) hown'
    have S : Below w2.heap.size w2 w1 := (hnx.alloc hsz _).grown hgrow (by simp; omega) (fun j hj => (hown.lt j hj).1)
    clear hown' hgrow hown
    go_wp2
    go_roundw
    case rel => exact ⟨t + 1, by omega, by omega, by go_num, R, S⟩
    case measure => simp [intOf]; omega
  obtain rfl : m = t := by omega
  clear hlt ht hkt
  obtain ⟨gg, gcap, rfl, hg⟩ := ownsRow_cls hown
  have hq3 := hq.below hnx
  have cb3 := cb2.below hnx
  have B3 := B2.trans (hnx.mono B2.size)
  clear hown hnx hsz hq cb2 B2 hi hz0 hz1 hz2
  go_wp2_with fail
  refine (classes_any gg (m + 1) gcap (insAt c code k) (insAt p pays k) wr (by omega) hg).mono ?_
  rintro e w4 ⟨og, qg, rfl, hqg, hqgp, hb4⟩
  have HQG : Hid (∀ i, i < m + 1 → (qg i).isSome = insAt p pays k i) := hqgp
  have hq4 := hq3.below hb4
  have cb4 := cb3.below hb4
  have B4 := B3.trans (hb4.mono B3.size)
  clear hqgp hq3 cb3 B3 hb4 hg
  go_wp2_with fail
  refine (kept_calls has fo co m m c p q w4 (by omega) hq4 HFO.out HQP.out).mono ?_
  rintro e w5 ⟨o5, cp5, l5, rfl, hl5, hp5, hb5⟩
  have HL5 : Hid ((kept has c p m).length = l5) := hl5
  have b5 : l5 ≤ 100000 := by have := kept_le has c p m; omega
  have hq5 := hq4.below hb5
  have hqg5 := hqg.below hb5
  have cb5 := cb4.below hb5
  have B5 := B4.trans (hb5.mono B4.size)
  clear hl5 hq4 hqg cb4 B4 hb5
  go_wp2_with fail
  refine (kept_calls has fo og (m + 1) (m + 1) (insAt c code k) (insAt p pays k) qg w5 (by omega) hqg5 HFO.out HQG.out).mono ?_
  rintro e w6 ⟨o6, cp6, l6, rfl, hl6, hp6, hb6⟩
  have HL6 : Hid ((kept has (insAt c code k) (insAt p pays k) (m + 1)).length = l6) := hl6
  have b6 : l6 ≤ 100000 := by have := kept_le has (insAt c code k) (insAt p pays k) (m + 1); omega
  have hq6 := hq5.below hb6
  have cb6 := cb5.below hb6
  have B6 := B5.trans (hb6.mono B5.size)
  have p56 : PayRow w6 o5 (kept has c p m) := hp5.below hb6
  clear hl6 hq5 hqg5 cb5 B5 hb6 hp5
  go_wp2_with fail
  refine (kept_calls has fo co k m c p q w6 (by omega) (hq6.take k hkm) HFO.out (fun i hi => HQP.out i (by omega))).mono ?_
  rintro e w7 ⟨o7, cp7, l7, rfl, hl7, _, hb7⟩
  have HL7 : Hid ((kept has c p k).length = l7) := hl7
  have b7 : l7 ≤ 100000 := by have := kept_le has c p k; omega
  have cb7 := cb6.below hb7
  have B7 := B6.trans (hb7.mono B6.size)
  have p57 : PayRow w7 o5 (kept has c p m) := p56.below hb7
  have p67 : PayRow w7 o6 (kept has (insAt c code k) (insAt p pays k) (m + 1)) := hp6.below hb7
  clear hl7 hq6 cb6 B6 hb7 p56 hp6 HQG HQP HFO
  cases has with
  | true =>
    go_wp2
    go_loop [22, 23] (fun v i => ∃ t z : Nat, t ≤ k ∧ i = .int .i64 t ∧ v = .int .i64 z ∧ Hid (z = (kept true c p t).length)) (fun _ i => k - (intOf i).toNat)
    case atStart => exact ⟨0, _, Nat.zero_le _, rfl, rfl, rfl⟩
    case round =>
    obtain ⟨t, z, ht, rfl, rfl, HZ⟩ := hrel
    have hzb : z ≤ 100000 := by have := kept_le true c p t; have := HZ.out; omega
    by_cases hlt : t < k
    case pos =>
      obtain ⟨b, off, rfl, hbb, h1, h2⟩ := cb7 t (by omega)
      cases hpp : p t with
      | false =>
        have HZ2 : Hid (z = (kept true c p (t + 1)).length) := by show _ = _; rw [kept_len_succ, hpp]; simpa using HZ.out
        simp only [hpp] at h2
        clear hpp HZ h1
        go_wp2
        go_round
        case rel => exact ⟨t + 1, z, by omega, by go_num, rfl, HZ2⟩
        case measure => simp [intOf]; omega
      | true =>
        have HZ2 : Hid (z + 1 = (kept true c p (t + 1)).length) := by show _ = _; rw [kept_len_succ, hpp]; simpa using HZ.out
        simp only [hpp] at h2
        clear hpp HZ h1
        go_wp2
        go_round
        case rel => exact ⟨t + 1, z + 1, by omega, by go_num, by go_num, HZ2⟩
        case measure => simp [intOf]; omega
    obtain rfl : k = t := by omega
    obtain rfl : l7 = z := by rw [HZ.out, HL7.out]
    clear hlt ht HZ hzb cb7
    cases pays with
    | false =>
      rw [ins_no true c p code k m hkm] at p67
      obtain rfl : l5 = l6 := by rw [← HL6.out, ← HL5.out, ins_no true c p code k m hkm]
      clear HL6 HL7 b6
      go_wp2_with fail
      refine (same_any o6 o5 l5 cp6 cp5 (kept true c p m) w7 HL5.out (by omega) p67 p57).mono ?_
      rintro e w8 ⟨rfl, nd, hw⟩; subst w8
      go_wp2
      go_ret
      exact ⟨rfl, below_drewN B7 _⟩
    | true =>
      obtain ⟨A, T, hA, hAT, hATx⟩ := ins_yes true c p code k m hkm
      rw [hAT] at p57
      rw [hATx] at p67
      have HA : Hid (A.length = l7) := by show _ = _; rw [← hA]; exact HL7.out
      have H5 : Hid ((A ++ T).length = l5) := by show _ = _; rw [← hAT]; exact HL5.out
      have H6 : Hid ((A ++ (sales, code) :: T).length = l6) := by show _ = _; rw [← hATx]; exact HL6.out
      clear hA hAT hATx HL5 HL6 HL7
      have h75 : l7 ≤ l5 := by rw [← HA.out, ← H5.out]; simp
      obtain rfl : l6 = l5 + 1 := by rw [← H6.out, ← H5.out]; simp; omega
      go_wp2
      go_loopw [24] (fun i wr => ∃ t nq : Nat, t ≤ l7 ∧ i = .int .i64 t ∧ wr = w7.drewN nq) (fun i _ => l7 - (intOf i).toNat)
      case atStart => exact ⟨0, 0, Nat.zero_le _, rfl, rfl⟩
      case round =>
      obtain ⟨t, nq, ht, rfl, rfl⟩ := hrel
      by_cases hlt : t < l7
      case pos =>
        obtain ⟨b, off, rfl, _, h1, h2⟩ := p57 t (by rw [H5.out]; omega)
        obtain ⟨b', off', rfl, _, h3, h4⟩ := p67 t (by rw [H6.out]; omega)
        dsimp only at h1 h2 h3 h4
        rw [mid_lt (by rw [HA.out]; exact hlt)] at h3 h4
        obtain ⟨x, hx⟩ : ∃ x, x = (A ++ T)[t]?.getD (⟨#[]⟩, ⟨#[]⟩) := ⟨_, rfl⟩
        rw [← hx] at h1 h2 h3 h4
        clear hx
        have hlt2 : t < l5 := by omega
        have hlt3 : t < l5 + 1 := by omega
        go_wp2
        go_quiet (fail)
        go_wp2
        go_roundw
        case rel => exact ⟨t + 1, _, by omega, by go_num, rfl⟩
        case measure => simp [intOf]; omega
      clear ht
      obtain ⟨b', off', rfl, hbb', h3, h4⟩ := p67 l7 (by rw [H6.out]; omega)
      have hm := mid_at (A := A) (T := T) (x := (sales, code)) (d := (⟨#[]⟩, ⟨#[]⟩))
      rw [HA.out] at hm
      dsimp only at h3 h4
      rw [hm] at h3 h4
      simp only [sales] at h3
      clear hm
      have hlt3 : l7 < l5 + 1 := by omega
      go_wp2
      clear h3 h4 hlt3
      go_loopw [25] (fun i wr => ∃ t nq : Nat, l7 ≤ t ∧ t ≤ l5 ∧ i = .int .i64 t ∧ wr = w7.drewN nq) (fun i _ => l5 - (intOf i).toNat)
      case atStart => exact ⟨l7, nq, Nat.le_refl _, h75, rfl, rfl⟩
      case round =>
      obtain ⟨t, nq, ht0, ht, rfl, rfl⟩ := hrel
      by_cases hlt : t < l5
      case pos =>
        obtain ⟨b, off, rfl, _, h1, h2⟩ := p57 t (by rw [H5.out]; omega)
        obtain ⟨b'', off'', hh, _, h3, h4⟩ := p67 (t + 1) (by rw [H6.out]; omega)
        obtain ⟨rfl, rfl⟩ : b' = b'' ∧ off' = off'' := by simpa using hh
        dsimp only at h1 h2 h3 h4
        rw [mid_gt (by rw [HA.out]; exact ht0)] at h3 h4
        obtain ⟨x, hx⟩ : ∃ x, x = (A ++ T)[t]?.getD (⟨#[]⟩, ⟨#[]⟩) := ⟨_, rfl⟩
        rw [← hx] at h1 h2 h3 h4
        clear hx hh
        have hlt3 : t + 1 < l5 + 1 := by omega
        go_wp2
        go_quiet (fail)
        go_wp2
        go_roundw
        case rel => exact ⟨t + 1, _, by omega, by omega, by go_num, rfl⟩
        case measure => simp [intOf]; omega
      go_wp2
      go_ret
      exact ⟨rfl, below_drewN B7 _⟩
  | false =>
    go_wp2
    go_loop [22, 23] (fun v i => ∃ t z : Nat, t ≤ k ∧ i = .int .i64 t ∧ v = .int .i64 z ∧ Hid (z = (kept false c p t).length)) (fun _ i => k - (intOf i).toNat)
    case atStart => exact ⟨0, _, Nat.zero_le _, rfl, rfl, rfl⟩
    case round =>
    obtain ⟨t, z, ht, rfl, rfl, HZ⟩ := hrel
    have hzb : z ≤ 100000 := by have := kept_le false c p t; have := HZ.out; omega
    by_cases hlt : t < k
    case pos =>
      obtain ⟨b, off, rfl, hbb, h1, h2⟩ := cb7 t (by omega)
      cases hpp : p t with
      | false =>
        have HZ2 : Hid (z = (kept false c p (t + 1)).length) := by show _ = _; rw [kept_len_succ, hpp]; simpa using HZ.out
        simp only [hpp] at h2
        clear hpp HZ h1
        go_wp2
        go_round
        case rel => exact ⟨t + 1, z, by omega, by go_num, rfl, HZ2⟩
        case measure => simp [intOf]; omega
      | true =>
        have HZ2 : Hid (z + 1 = (kept false c p (t + 1)).length) := by show _ = _; rw [kept_len_succ, hpp]; simpa using HZ.out
        simp only [hpp] at h2
        clear hpp HZ h1
        go_wp2
        go_round
        case rel => exact ⟨t + 1, z + 1, by omega, by go_num, by go_num, HZ2⟩
        case measure => simp [intOf]; omega
    obtain rfl : k = t := by omega
    obtain rfl : l7 = z := by rw [HZ.out, HL7.out]
    clear hlt ht HZ hzb cb7
    cases pays with
    | false =>
      rw [ins_no false c p code k m hkm] at p67
      obtain rfl : l5 = l6 := by rw [← HL6.out, ← HL5.out, ins_no false c p code k m hkm]
      clear HL6 HL7 b6
      go_wp2_with fail
      refine (same_any o6 o5 l5 cp6 cp5 (kept false c p m) w7 HL5.out (by omega) p67 p57).mono ?_
      rintro e w8 ⟨rfl, nd, hw⟩; subst w8
      go_wp2
      go_ret
      exact ⟨rfl, below_drewN B7 _⟩
    | true =>
      obtain ⟨A, T, hA, hAT, hATx⟩ := ins_yes false c p code k m hkm
      rw [hAT] at p57
      rw [hATx] at p67
      have HA : Hid (A.length = l7) := by show _ = _; rw [← hA]; exact HL7.out
      have H5 : Hid ((A ++ T).length = l5) := by show _ = _; rw [← hAT]; exact HL5.out
      have H6 : Hid ((A ++ (sales, code) :: T).length = l6) := by show _ = _; rw [← hATx]; exact HL6.out
      clear hA hAT hATx HL5 HL6 HL7
      have h75 : l7 ≤ l5 := by rw [← HA.out, ← H5.out]; simp
      obtain rfl : l6 = l5 + 1 := by rw [← H6.out, ← H5.out]; simp; omega
      go_wp2
      go_loopw [24] (fun i wr => ∃ t nq : Nat, t ≤ l7 ∧ i = .int .i64 t ∧ wr = w7.drewN nq) (fun i _ => l7 - (intOf i).toNat)
      case atStart => exact ⟨0, 0, Nat.zero_le _, rfl, rfl⟩
      case round =>
      obtain ⟨t, nq, ht, rfl, rfl⟩ := hrel
      by_cases hlt : t < l7
      case pos =>
        obtain ⟨b, off, rfl, _, h1, h2⟩ := p57 t (by rw [H5.out]; omega)
        obtain ⟨b', off', rfl, _, h3, h4⟩ := p67 t (by rw [H6.out]; omega)
        dsimp only at h1 h2 h3 h4
        rw [mid_lt (by rw [HA.out]; exact hlt)] at h3 h4
        obtain ⟨x, hx⟩ : ∃ x, x = (A ++ T)[t]?.getD (⟨#[]⟩, ⟨#[]⟩) := ⟨_, rfl⟩
        rw [← hx] at h1 h2 h3 h4
        clear hx
        have hlt2 : t < l5 := by omega
        have hlt3 : t < l5 + 1 := by omega
        go_wp2
        go_quiet (fail)
        go_wp2
        go_roundw
        case rel => exact ⟨t + 1, _, by omega, by go_num, rfl⟩
        case measure => simp [intOf]; omega
      clear ht
      obtain ⟨b', off', rfl, hbb', h3, h4⟩ := p67 l7 (by rw [H6.out]; omega)
      have hm := mid_at (A := A) (T := T) (x := (sales, code)) (d := (⟨#[]⟩, ⟨#[]⟩))
      rw [HA.out] at hm
      dsimp only at h3 h4
      rw [hm] at h3 h4
      simp only [sales] at h3
      clear hm
      have hlt3 : l7 < l5 + 1 := by omega
      go_wp2
      clear h3 h4 hlt3
      go_loopw [25] (fun i wr => ∃ t nq : Nat, l7 ≤ t ∧ t ≤ l5 ∧ i = .int .i64 t ∧ wr = w7.drewN nq) (fun i _ => l5 - (intOf i).toNat)
      case atStart => exact ⟨l7, nq, Nat.le_refl _, h75, rfl, rfl⟩
      case round =>
      obtain ⟨t, nq, ht0, ht, rfl, rfl⟩ := hrel
      by_cases hlt : t < l5
      case pos =>
        obtain ⟨b, off, rfl, _, h1, h2⟩ := p57 t (by rw [H5.out]; omega)
        obtain ⟨b'', off'', hh, _, h3, h4⟩ := p67 (t + 1) (by rw [H6.out]; omega)
        obtain ⟨rfl, rfl⟩ : b' = b'' ∧ off' = off'' := by simpa using hh
        dsimp only at h1 h2 h3 h4
        rw [mid_gt (by rw [HA.out]; exact ht0)] at h3 h4
        obtain ⟨x, hx⟩ : ∃ x, x = (A ++ T)[t]?.getD (⟨#[]⟩, ⟨#[]⟩) := ⟨_, rfl⟩
        rw [← hx] at h1 h2 h3 h4
        clear hx hh
        have hlt3 : t + 1 < l5 + 1 := by omega
        go_wp2
        go_quiet (fail)
        go_wp2
        go_roundw
        case rel => exact ⟨t + 1, _, by omega, by omega, by go_num, rfl⟩
        case measure => simp [intOf]; omega
      go_wp2
      go_ret
      exact ⟨rfl, below_drewN B7 _⟩

end Go.Proofs.Qxb6628854a
