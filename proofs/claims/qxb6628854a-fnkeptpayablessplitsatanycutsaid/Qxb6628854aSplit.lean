import Derived.Test.Qxb6628854aPlain
namespace Go.Proofs.Qxb6628854a
open Go.RowKit

/-- 'cs[k:]': one address, whether or not k stands at the end. -/
theorem cut_tail (co : Option Addr) (m k : Nat) (hk : k ≤ m) :
    ∃ bo, (∀ wx, (Instr.slice 28 (.slice co m m) (some (.int .i64 (k : Int))) none none).run Try.prog wx = .ok (.slice bo (m - k) (m - k)) wx) ∧ Hid (¬ m = k → bo = co.map (·.add (k * 2))) := by
  refine ⟨if m = k then co else co.map (·.add (k * 2)), fun wx => ?_, fun h => by rw [if_neg h]⟩
  obtain ⟨i0, hi, hz0, hz1, hz2⟩ := info_parts Try.info48
  have he : Try.prog.elem 28 = 48 := by kernel_rfl
  rw [run_slice_l wx 28 co m m (by rw [he]; exact Try.underlying28) .i64 (k : Int) (by omega) (by omega)]
  simp [he, sizeOf, typeInfo, hi, hz1, sliced]

set_option maxHeartbeats 2000000 in
set_option maxRecDepth 100000 in
theorem split_walk (has : Bool) (kk : Int) (ao bo : Option Addr) (n m ca cb : Nat) (s : Nat → ByteArray) (c : Nat → ByteArray) (p : Nat → Bool) (w : World) (hn : n ≤ 9223372036854775807) (hm : m ≤ 9223372036854775807)
    (ha : StrRow w ao n s) (hb : PairRow w bo m (fun i => .string (c i)) (fun i => .bool (p i))) :
    Calls Try.prog 3 #[.bool has, .slice ao n ca, .slice bo m cb, .int .i64 kk] w fun e w' => e = .returned (.bool true) ∧ Below w.heap.size w w' := by
  go_enter Try.func3, Try.ntmps3
  go_wp2_with fail
  refine (bytes1_any has kk ao bo n m ca cb s c _ w hn hm ha hb).mono ?_
  rintro e w' ⟨⟨b, rfl⟩, hw⟩; subst w'
  cases b with
  | false =>
    go_wp2
    go_ret
    exact ⟨rfl, Below.refl _ _⟩
  | true =>
  by_cases hn2 : n ≤ 65536
  · by_cases hm2 : m ≤ 65536
    · go_wp2_with fail
      refine (within_any ao bo n m ca cb s c _ _ w hn hm ha hb).mono ?_
      rintro e w' ⟨⟨b, rfl⟩, hw⟩; subst w'
      cases b with
      | false =>
        go_wp2
        go_ret
        exact ⟨rfl, Below.refl _ _⟩
      | true =>
      by_cases hk0 : kk < 0
      · go_wp2
        go_ret
        exact ⟨rfl, Below.refl _ _⟩
      · obtain ⟨k, rfl⟩ := Int.eq_ofNat_of_zero_le (show 0 ≤ kk by omega)
        by_cases hkm : k ≤ m
        · go_wp2_with fail
          refine (fees_any has ao n ca s w hn2 ha).mono ?_
          rintro e w1 ⟨fo, rfl, hfo, hb1⟩
          have HFO : Hid (fo.isSome = has) := hfo
          clear hfo
          have cb1 := hb.below hb1
          go_wp2_with fail
          refine (classes_any bo m cb c p w1 (by omega) cb1).mono ?_
          rintro e w2 ⟨co, q, rfl, hq, hqp, hb2⟩
          have HQP : Hid (∀ i, i < m → (q i).isSome = p i) := hqp
          clear hqp
          have cb2 := cb1.below hb2
          have B2 := hb1.trans (hb2.mono hb1.size)
          clear cb1 hb1 hb2
          go_wp2_with fail
          refine (kept_calls has fo co m m c p q w2 (by omega) hq HFO.out HQP.out).mono ?_
          rintro e w3 ⟨o3, cp3, l3, rfl, hl3, hp3, hb3⟩
          have HL3 : Hid ((kept has c p m).length = l3) := hl3
          have hq3 := hq.below hb3
          have cb3 := cb2.below hb3
          have B3 := B2.trans (hb3.mono B2.size)
          clear hq hl3 hb3 cb2 B2
          go_wp2_with fail
          refine (kept_calls has fo co k m c p q w3 (by omega) (hq3.take k hkm) HFO.out (fun i hi => HQP.out i (by omega))).mono ?_
          rintro e w4 ⟨o4, cp4, l4, rfl, hl4, hp4, hb4⟩
          have HL4 : Hid ((kept has c p k).length = l4) := hl4
          have hq4 := hq3.below hb4
          have cb4 := cb3.below hb4
          have B4 := B3.trans (hb4.mono B3.size)
          have p34 : PayRow w4 o3 (kept has c p m) := hp3.below hb4
          clear hq3 hl4 hb4 cb3 B3 hp3
          obtain ⟨bo5, hsl, hbo⟩ := cut_tail co m k hkm
          go_wp2_with fail
          refine (kept_calls false none bo5 (m - k) (m - k) (fun i => c (k + i)) (fun i => p (k + i)) (fun i => q (k + i)) w4 (by omega) (hq4.cut k hkm hbo.out) rfl (fun i hi => HQP.out (k + i) (by omega))).mono ?_
          rintro e w5 ⟨o5, cp5, l5, rfl, hl5, hp5, hb5⟩
          have HL5 : Hid ((kept false (fun i => c (k + i)) (fun i => p (k + i)) (m - k)).length = l5) := hl5
          have cb5 := cb4.below hb5
          have B5 := B4.trans (hb5.mono B4.size)
          have p35 : PayRow w5 o3 (kept has c p m) := p34.below hb5
          have p45 : PayRow w5 o4 (kept has c p k) := hp4.below hb5
          clear hq4 hl5 hb5 cb4 B4 p34 hp4
          cases has with
          | true =>
            go_wp2_with fail
            refine (kept_calls true fo none 0 0 c p q w5 (by omega) (fun i hi => by omega) HFO.out (fun i hi => by omega)).mono ?_
            rintro e w6 ⟨o6, cp6, l6, rfl, hl6, hp6, hb6⟩
            obtain rfl : l6 = 2 := by rw [← hl6]; rfl
            have cb6 := cb5.below hb6
            have B6 := B5.trans (hb6.mono B5.size)
            have p36 : PayRow w6 o3 (kept true c p m) := p35.below hb6
            have p46 : PayRow w6 o4 (kept true c p k) := p45.below hb6
            have p56 : PayRow w6 o5 (kept false (fun i => c (k + i)) (fun i => p (k + i)) (m - k)) := hp5.below hb6
            clear hl6 hb6 cb5 B5 p35 p45 hp5
            have b4 : l4 ≤ 100000 := by have := kept_le true c p k; have := HL4.out; omega
            have b5 : l5 ≤ 100000 := by have := kept_le false (fun i => c (k + i)) (fun i => p (k + i)) (m - k); have := HL5.out; omega
            have b3 : l3 ≤ 100000 := by have := kept_le true c p m; have := HL3.out; omega
            go_wp2_with fail
            refine (join_any o4 o5 l4 l5 cp4 cp5 _ _ w6 HL4.out HL5.out b4 b5 p46 p56).mono ?_
            rintro e w7 ⟨v7, rfl, hown7, hb7⟩
            rw [← kept_split true c p k m hkm] at hown7
            obtain ⟨o7, cp7, rfl, p77⟩ := ownsRow_pay hown7
            rw [HL3.out]
            have cb7 := cb6.below hb7
            have B7 := B6.trans (hb7.mono B6.size)
            have p37 : PayRow w7 o3 (kept true c p m) := p36.below hb7
            have p57 : PayRow w7 o5 (kept false (fun i => c (k + i)) (fun i => p (k + i)) (m - k)) := p56.below hb7
            have p67 : PayRow w7 o6 (kept true c p 0) := hp6.below hb7
            clear cb6 B6 hown7 hb7 p36 p46 p56 hp6
            go_wp2_with fail
            refine (same_any o3 o7 l3 cp3 cp7 (kept true c p m) w7 HL3.out (by omega) p37 p77).mono ?_
            rintro e w8 ⟨rfl, nd, hw⟩; subst w8
            clear p37 p77 HL3 HL4 b4 b3
            obtain ⟨b6, off6, rfl, _, x1, x2⟩ := p67 0 (show 0 < 2 by decide)
            obtain ⟨b6', off6', hh, _, x3, x4⟩ := p67 1 (show 1 < 2 by decide)
            obtain ⟨rfl, rfl⟩ : b6 = b6' ∧ off6 = off6' := by simpa using hh
            have y1 : w7.cell? ⟨b6, off6, none⟩ = some (.string ⟨#[109, 97, 110, 97, 103, 101, 109, 101, 110, 116, 95, 102, 101, 101, 95, 112, 97, 121, 97, 98, 108, 101]⟩) := x1
            have y2 : w7.cell? ⟨b6, off6 + 1, none⟩ = some (.string ⟨#[]⟩) := x2
            have y3 : w7.cell? ⟨b6, off6 + 2, none⟩ = some (.string ⟨#[99, 117, 115, 116, 111, 100, 121, 95, 102, 101, 101, 95, 112, 97, 121, 97, 98, 108, 101]⟩) := x3
            have y4 : w7.cell? ⟨b6, off6 + 3, none⟩ = some (.string ⟨#[]⟩) := x4
            clear x1 x2 x3 x4 hh p67
            go_wp2
            clear HFO HQP hsl hbo
            go_loopw [15, 16] (fun j i wr => ∃ t j0 nq : Nat, t ≤ m - k ∧ i = .int .i64 ((k + t : Nat) : Int) ∧ j = .int .i64 (j0 : Int) ∧ Hid (j0 = (tailPays (fun i => c (k + i)) (fun i => p (k + i)) t).length) ∧ wr = w7.drewN nq)
              (fun _ i _ => m - (intOf i).toNat)
            case atStart => exact ⟨0, 0, nd, Nat.zero_le _, rfl, rfl, rfl, rfl⟩
            case round =>
              obtain ⟨t, j0, nq, ht, rfl, rfl, HJ, rfl⟩ := hrel
              by_cases hlt : t < m - k
              · obtain ⟨b, off, rfl, _, z1, z2⟩ := cb7 (k + t) (by omega)
                cases hpp : p (k + t) with
                | false =>
                  have HJ2 : Hid (j0 = (tailPays (fun i => c (k + i)) (fun i => p (k + i)) (t + 1)).length) := by
                    show _ = _; rw [tailPays_succ]; simp only [hpp]; simpa using HJ.out
                  simp only [hpp] at z2
                  clear hpp HJ
                  go_wp2
                  go_roundw
                  case rel => exact ⟨t + 1, j0, nq, by omega, by go_num, rfl, HJ2, rfl⟩
                  case measure => simp [intOf]; omega
                | true =>
                  have HJ2 : Hid (j0 + 1 = (tailPays (fun i => c (k + i)) (fun i => p (k + i)) (t + 1)).length) := by
                    show _ = _; rw [tailPays_succ]; simp only [hpp]; simpa using HJ.out
                  obtain ⟨g1, g2⟩ := tailPays_get (fun i => c (k + i)) (fun i => p (k + i)) t (m - k) hlt hpp
                  have hj5 : j0 < l5 := by have := HL5.out; have := HJ.out; show _ < _; rw [← HL5.out, HJ.out]; exact g1
                  obtain ⟨b', off', rfl, _, z3, z4⟩ := p57 j0 (by rw [HL5.out]; exact hj5)
                  have g2' : (kept false (fun i => c (k + i)) (fun i => p (k + i)) (m - k))[j0]? = some (sales, c (k + t)) := by rw [HJ.out]; exact g2
                  simp only [g2', Option.getD_some] at z3 z4
                  simp only [sales] at z3
                  simp only [hpp] at z2
                  clear hpp HJ g1 g2 g2'
                  go_wp2
                  go_quiet (fail)
                  go_wp2
                  go_roundw
                  case rel => exact ⟨t + 1, j0 + 1, _, by omega, by go_num, by go_num, HJ2, rfl⟩
                  case measure => simp [intOf]; omega
              · have hkt : t = m - k := by omega
                have hj5 : j0 = l5 := by rw [← HL5.out, HJ.out, hkt]; rfl
                clear hkt HJ
                subst hj5
                go_wp2
                go_ret
                exact ⟨rfl, below_drewN B7 _⟩
          | false =>
            go_wp2_with fail
            refine (kept_calls false fo none 0 0 c p q w5 (by omega) (fun i hi => by omega) HFO.out (fun i hi => by omega)).mono ?_
            rintro e w6 ⟨o6, cp6, l6, rfl, hl6, hp6, hb6⟩
            obtain rfl : l6 = 0 := by rw [← hl6]; rfl
            have cb6 := cb5.below hb6
            have B6 := B5.trans (hb6.mono B5.size)
            have p36 : PayRow w6 o3 (kept false c p m) := p35.below hb6
            have p46 : PayRow w6 o4 (kept false c p k) := p45.below hb6
            have p56 : PayRow w6 o5 (kept false (fun i => c (k + i)) (fun i => p (k + i)) (m - k)) := hp5.below hb6
            clear hl6 hb6 cb5 B5 p35 p45 hp5
            have b4 : l4 ≤ 100000 := by have := kept_le false c p k; have := HL4.out; omega
            have b5 : l5 ≤ 100000 := by have := kept_le false (fun i => c (k + i)) (fun i => p (k + i)) (m - k); have := HL5.out; omega
            have b3 : l3 ≤ 100000 := by have := kept_le false c p m; have := HL3.out; omega
            go_wp2_with fail
            refine (join_any o4 o5 l4 l5 cp4 cp5 _ _ w6 HL4.out HL5.out b4 b5 p46 p56).mono ?_
            rintro e w7 ⟨v7, rfl, hown7, hb7⟩
            rw [← kept_split false c p k m hkm] at hown7
            obtain ⟨o7, cp7, rfl, p77⟩ := ownsRow_pay hown7
            rw [HL3.out]
            have cb7 := cb6.below hb7
            have B7 := B6.trans (hb7.mono B6.size)
            have p37 : PayRow w7 o3 (kept false c p m) := p36.below hb7
            have p57 : PayRow w7 o5 (kept false (fun i => c (k + i)) (fun i => p (k + i)) (m - k)) := p56.below hb7
            have p67 : PayRow w7 o6 (kept false c p 0) := hp6.below hb7
            clear cb6 B6 hown7 hb7 p36 p46 p56 hp6
            go_wp2_with fail
            refine (same_any o3 o7 l3 cp3 cp7 (kept false c p m) w7 HL3.out (by omega) p37 p77).mono ?_
            rintro e w8 ⟨rfl, nd, hw⟩; subst w8
            clear p37 p77 HL3 HL4 b4 b3
            clear p67
            go_wp2
            clear HFO HQP hsl hbo
            go_loopw [15, 16] (fun j i wr => ∃ t j0 nq : Nat, t ≤ m - k ∧ i = .int .i64 ((k + t : Nat) : Int) ∧ j = .int .i64 (j0 : Int) ∧ Hid (j0 = (tailPays (fun i => c (k + i)) (fun i => p (k + i)) t).length) ∧ wr = w7.drewN nq)
              (fun _ i _ => m - (intOf i).toNat)
            case atStart => exact ⟨0, 0, nd, Nat.zero_le _, rfl, rfl, rfl, rfl⟩
            case round =>
              obtain ⟨t, j0, nq, ht, rfl, rfl, HJ, rfl⟩ := hrel
              by_cases hlt : t < m - k
              · obtain ⟨b, off, rfl, _, z1, z2⟩ := cb7 (k + t) (by omega)
                cases hpp : p (k + t) with
                | false =>
                  have HJ2 : Hid (j0 = (tailPays (fun i => c (k + i)) (fun i => p (k + i)) (t + 1)).length) := by
                    show _ = _; rw [tailPays_succ]; simp only [hpp]; simpa using HJ.out
                  simp only [hpp] at z2
                  clear hpp HJ
                  go_wp2
                  go_roundw
                  case rel => exact ⟨t + 1, j0, nq, by omega, by go_num, rfl, HJ2, rfl⟩
                  case measure => simp [intOf]; omega
                | true =>
                  have HJ2 : Hid (j0 + 1 = (tailPays (fun i => c (k + i)) (fun i => p (k + i)) (t + 1)).length) := by
                    show _ = _; rw [tailPays_succ]; simp only [hpp]; simpa using HJ.out
                  obtain ⟨g1, g2⟩ := tailPays_get (fun i => c (k + i)) (fun i => p (k + i)) t (m - k) hlt hpp
                  have hj5 : j0 < l5 := by have := HL5.out; have := HJ.out; show _ < _; rw [← HL5.out, HJ.out]; exact g1
                  obtain ⟨b', off', rfl, _, z3, z4⟩ := p57 j0 (by rw [HL5.out]; exact hj5)
                  have g2' : (kept false (fun i => c (k + i)) (fun i => p (k + i)) (m - k))[j0]? = some (sales, c (k + t)) := by rw [HJ.out]; exact g2
                  simp only [g2', Option.getD_some] at z3 z4
                  simp only [sales] at z3
                  simp only [hpp] at z2
                  clear hpp HJ g1 g2 g2'
                  go_wp2
                  go_quiet (fail)
                  go_wp2
                  go_roundw
                  case rel => exact ⟨t + 1, j0 + 1, _, by omega, by go_num, by go_num, HJ2, rfl⟩
                  case measure => simp [intOf]; omega
              · have hkt : t = m - k := by omega
                have hj5 : j0 = l5 := by rw [← HL5.out, HJ.out, hkt]; rfl
                clear hkt HJ
                subst hj5
                go_wp2
                go_ret
                exact ⟨rfl, below_drewN B7 _⟩
        · go_wp2
          go_ret
          exact ⟨rfl, Below.refl _ _⟩
    · go_wp2
      go_ret
      exact ⟨rfl, Below.refl _ _⟩
  · go_wp2
    go_ret
    exact ⟨rfl, Below.refl _ _⟩

end Go.Proofs.Qxb6628854a
