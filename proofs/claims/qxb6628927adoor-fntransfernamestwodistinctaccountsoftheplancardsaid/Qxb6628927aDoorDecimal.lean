/-
  Seat b6628927aD: the walk of decimal64 (f7): the text of n in decimal.
-/
import Derived.Test.Qxb6628927aDoorTransfer
import Derived.Deep.OwnRows
import Derived.Laws.IdiomStrings
namespace Go.Proofs.Qxb6628927aDoor
open Go.RowKit Go.Sort

theorem dec_pos (u : Nat) : 1 ≤ (Lib.decDigits u).length := by
  rw [Lib.decDigits]; split <;> simp
theorem dec_big {u : Nat} (h : ¬ u < 10) : Lib.decDigits u = Lib.decDigits (u / 10) ++ [UInt8.ofNat (48 + u % 10)] := by
  rw [Lib.decDigits, dif_neg h]
theorem dec_le20 (u : Nat) (h : u ≤ 18446744073709551615) : (Lib.decDigits u).length ≤ 20 := by
  rw [Lib.decDigits_length]; exact Lib.nDigits_le20 u (by omega)

theorem not_u64 (v : Nat) (h : v < 18446744073709551616) : bits BinOp.xor IntKind.u64 18446744073709551615 (v : Int) = 18446744073709551615 - (v : Int) := by
  have := bits_xor_u64_nat 18446744073709551615 v (by omega) h
  rw [show ((18446744073709551615 : Nat) : Int) = (18446744073709551615 : Int) from rfl] at this
  rw [this]
  have hx : 18446744073709551615 ^^^ v = 18446744073709551615 - v := by
    have h1 : (18446744073709551615 : Nat) = 2 ^ 64 - 1 := by decide
    rw [h1]
    apply Nat.eq_of_testBit_eq
    intro i
    rw [Nat.testBit_xor, Nat.testBit_two_pow_sub_one]
    by_cases hi : i < 64
    · rw [show 2 ^ 64 - 1 - v = 2 ^ 64 - (v + 1) from by omega, Nat.testBit_two_pow_sub_succ (by simpa using h)]
      simp [hi]
    · have h2 : v.testBit i = false := Nat.testBit_lt_two_pow (Nat.lt_of_lt_of_le h (by simpa using Nat.pow_le_pow_right (by decide : 1 ≤ 2) (by omega : 64 ≤ i)))
      have h3 : (2 ^ 64 - 1 - v).testBit i = false := Nat.testBit_lt_two_pow (Nat.lt_of_le_of_lt (by omega : 2 ^ 64 - 1 - v ≤ 2 ^ 64 - 1) (Nat.lt_of_lt_of_le (by decide) (Nat.pow_le_pow_right (by decide : 1 ≤ 2) (by omega : 64 ≤ i))))
      simp [hi, h2, h3]
  rw [hx]
  omega

theorem neg_u64 (n : Int) (h0 : n < 0) (h1 : -9223372036854775808 ≤ n) : IntKind.u64.wrap (bits BinOp.xor IntKind.u64 IntKind.u64.max (IntKind.u64.wrap n) + 1) = ((-n).toNat : Int) := by
  rw [show IntKind.u64.max = 18446744073709551615 from rfl]
  have e1 : IntKind.u64.wrap n = ((18446744073709551616 + n).toNat : Int) := by
    rw [IntKind.wrap_u64]; omega
  rw [e1, not_u64 _ (by omega), IntKind.wrap_u64]
  omega

theorem cons_row {f : Nat → Value} {j u : Nat} {l : List UInt8} (hf : ∀ t (h : t < l.length), f (j + 1 + t) = .int .u8 (l[t].toNat : Int)) :
    ∀ t (h : t < (UInt8.ofNat (48 + u % 10) :: l).length), (fun i => if i = j then Value.int .u8 (48 + (u : Int) % 10) else f i) (j + t) = .int .u8 ((UInt8.ofNat (48 + u % 10) :: l)[t].toNat : Int) := by
  intro t h
  cases t with
  | zero =>
    simp only [Nat.add_zero, if_true, List.getElem_cons_zero]
    rw [show (UInt8.ofNat (48 + u % 10)).toNat = 48 + u % 10 from by rw [UInt8.toNat_ofNat']; omega]
    congr 1
  | succ t =>
    rw [show j + (t + 1) = j + 1 + t from by omega]
    simp only [show ¬ (j + 1 + t = j) from by omega, if_false, List.getElem_cons_succ]
    exact hf t (by simpa using h)

theorem hid_mk {p : Prop} (h : p) : Hid p := h

theorem zero_row : ∀ i, i < 24 → #[Value.int .u8 0, .int .u8 0, .int .u8 0, .int .u8 0, .int .u8 0, .int .u8 0, .int .u8 0, .int .u8 0, .int .u8 0, .int .u8 0, .int .u8 0, .int .u8 0, .int .u8 0, .int .u8 0, .int .u8 0, .int .u8 0, .int .u8 0, .int .u8 0, .int .u8 0, .int .u8 0, .int .u8 0, .int .u8 0, .int .u8 0, .int .u8 0][i]? = some (Value.int .u8 0)
  | 0, _ => rfl | 1, _ => rfl | 2, _ => rfl | 3, _ => rfl | 4, _ => rfl | 5, _ => rfl | 6, _ => rfl | 7, _ => rfl | 8, _ => rfl | 9, _ => rfl | 10, _ => rfl | 11, _ => rfl
  | 12, _ => rfl | 13, _ => rfl | 14, _ => rfl | 15, _ => rfl | 16, _ => rfl | 17, _ => rfl | 18, _ => rfl | 19, _ => rfl | 20, _ => rfl | 21, _ => rfl | 22, _ => rfl | 23, _ => rfl
  | n + 24, h => by omega

theorem cut_buf (B j : Nat) (hj : j < 24) (wx : World) : (Instr.sliceAt 37 (.pointer (some ⟨B, 0, none⟩)) (some (.int .i64 (j : Int))) none none).run Tryd.prog wx = .ok (.slice (some ⟨B, j, none⟩) (24 - j) (24 - j)) wx := by
  have hl : Tryd.prog.arrayLen 37 = 24 := by kernel_rfl
  have he : Tryd.prog.elem 37 = 5 := by kernel_rfl
  have hi : (Tryd.prog.info? 5).map (·.size) = some 1 := by kernel_rfl
  obtain ⟨i0, hi0, hi1⟩ := Option.map_eq_some_iff.1 hi
  rw [run_sliceAt_array_l wx 37 ⟨B, 0, none⟩ (by rw [hl, he]; exact Tryd.underlying37) .i64 (j : Int) (by omega) (by rw [hl]; omega)]
  simp [he, hl, sizeOf, typeInfo, hi0, hi1, slicedAt, Addr.add_lit, show ¬ (24 = j) from by omega]

theorem text_of {W : World} {B j : Nat} {f : Nat → Value} {l : List UInt8} (hrow : W.rowIs B 37 24 f) (hl : j + l.length = 24) (hf : ∀ t (h : t < l.length), f (j + t) = .int .u8 (l[t].toNat : Int)) :
    (convert 38 9 (.slice (some ⟨B, j, none⟩) (24 - j) (24 - j))).run Tryd.prog W = .ok (.string ⟨l.toArray⟩) W := by
  have := run_convert_bytes_back (P := Tryd.prog) W 38 9 5 ⟨B, j, none⟩ (24 - j) l Tryd.underlying38 Tryd.underlying5 Tryd.underlying9 (fun t ht => by
    rw [Addr.add_lit, hrow.cell (by omega), hf t ht])
  rw [show l.length = 24 - j from by omega] at this
  exact this

set_option maxHeartbeats 1000000 in
theorem decimal_pos (U : Nat) (w : World) (h1 : U ≤ 9223372036854775807) :
    Calls Tryd.prog 7 #[.int .i64 (U : Int)] w fun e w' => e = .returned (.string (num U)) ∧ Below w.heap.size w w' := by
  have hU : U ≤ 18446744073709551615 := by omega
  go_enter Tryd.func7, Tryd.ntmps7
  go_wp2
  have R0 : (w.alloc (Obj.cells #[.int .u8 0, .int .u8 0, .int .u8 0, .int .u8 0, .int .u8 0, .int .u8 0, .int .u8 0, .int .u8 0, .int .u8 0, .int .u8 0, .int .u8 0, .int .u8 0, .int .u8 0, .int .u8 0, .int .u8 0, .int .u8 0, .int .u8 0, .int .u8 0, .int .u8 0, .int .u8 0, .int .u8 0, .int .u8 0, .int .u8 0, .int .u8 0] 37)).rowIs w.heap.size 37 24 (fun _ => .int .u8 0) :=
    World.rowIs_alloc w _ 37 _ (fun i hi => by
      have h24 : i < 24 := hi
      exact zero_row i h24)
  go_loopw [3, 5] (fun uv i wr => ∃ (j u : Nat) (l : List UInt8) (f : Nat → Value), j + 1 + l.length = 24 ∧ i = .int .i64 ((j + 1 : Nat) : Int) ∧ uv = .int .u64 (u : Int) ∧ wr.rowIs w.heap.size 37 24 f ∧ Hid (∀ t (h : t < l.length), f (j + 1 + t) = .int .u8 (l[t].toNat : Int)) ∧ Hid (Lib.decDigits U = Lib.decDigits u ++ l) ∧ u ≤ 18446744073709551615 ∧ Below w.heap.size w wr)
    (fun _ i _ => (intOf i).toNat)
  case atStart => exact ⟨23, U, [], fun _ => .int .u8 0, rfl, rfl, rfl, R0, hid_mk (fun t h => by cases h), by simp [Hid], hU, (Below.refl _ _).alloc (Nat.le_refl _) _⟩
  case round =>
    clear R0
    obtain ⟨j, u, l, f, hj, rfl, rfl, hrow, hf, hd, hu, hnx⟩ := hrel
    have g1 := hrow.cell (i := j) (by omega)
    have g2 := hrow.frozen j
    have hj0 : 1 ≤ j := by
      have h2 := dec_le20 U hU
      have h3 := congrArg List.length hd.out
      rw [List.length_append] at h3
      have h4 := dec_pos u
      omega
    have hb : (48 : Int) + (u : Int) % 10 ≤ 57 := by omega
    have R := hrow.set j (.int .u8 (48 + (u : Int) % 10))
    have HR : Hid (∀ t (h : t < (UInt8.ofNat (48 + u % 10) :: l).length), (fun i => if i = j then Value.int .u8 (48 + (u : Int) % 10) else f i) (j + t) = .int .u8 ((UInt8.ofNat (48 + u % 10) :: l)[t].toNat : Int)) := cons_row hf.out
    have S : Below w.heap.size w (wr.setCell ⟨w.heap.size, j, none⟩ (.int .u8 (48 + (u : Int) % 10))) := hnx.setCell (Nat.le_refl _) _
    by_cases hlt : u < 10
    · have hz : ((u : Int) / 10 == 0) = true := by simp; omega
      have HD : Hid (Lib.decDigits U = UInt8.ofNat (48 + u % 10) :: l) := by show _ = _; rw [hd.out, Lib.decDigits_one hlt, Nat.mod_eq_of_lt hlt]; rfl
      have hsl := cut_buf w.heap.size j (by omega)
      obtain ⟨l', hl'⟩ : ∃ l', l' = UInt8.ofNat (48 + u % 10) :: l := ⟨_, rfl⟩
      rw [← hl'] at HR HD
      have hcv := text_of R (l := l') (by rw [hl']; simp; omega) HR.out
      clear hd hf HR hl'
      go_wp2
      go_ret
      exact ⟨by unfold num; rw [Lib.itoa_nonneg, HD.out]; rfl, S⟩
    · have hz : ((u : Int) / 10 == 0) = false := by simp; omega
      have HD : Hid (Lib.decDigits U = Lib.decDigits (u / 10) ++ UInt8.ofNat (48 + u % 10) :: l) := by show _ = _; rw [hd.out, dec_big hlt]; simp
      clear hd hf
      obtain ⟨j', rfl⟩ : ∃ j', j = j' + 1 := ⟨j - 1, by omega⟩
      go_wp2
      go_roundw
      case rel => exact ⟨j', u / 10, _, _, by simp; omega, by go_num, by go_num, R, HR, HD, by omega, S⟩
      case measure => simp [intOf]; omega

theorem num_neg (U : Nat) (h : 1 ≤ U) : num (-(U : Int)) = ⟨#[45]⟩ ++ ⟨(Lib.decDigits U).toArray⟩ := by
  unfold num
  rw [Lib.itoa_neg U h]
  apply ByteArray.ext
  simp

set_option maxHeartbeats 1000000 in
theorem decimal_neg (U : Nat) (w : World) (h0 : 1 ≤ U) (h1 : U ≤ 9223372036854775808) :
    Calls Tryd.prog 7 #[.int .i64 (-(U : Int))] w fun e w' => e = .returned (.string (num (-(U : Int)))) ∧ Below w.heap.size w w' := by
  have hU : U ≤ 18446744073709551615 := by omega
  have hneg := neg_u64 (-(U : Int)) (by omega) (by omega)
  rw [show (- -(U : Int)).toNat = U from by omega] at hneg
  have hn0 : -(U : Int) < 0 := by omega
  go_enter Tryd.func7, Tryd.ntmps7
  go_wp2
  have R0 : (w.alloc (Obj.cells #[.int .u8 0, .int .u8 0, .int .u8 0, .int .u8 0, .int .u8 0, .int .u8 0, .int .u8 0, .int .u8 0, .int .u8 0, .int .u8 0, .int .u8 0, .int .u8 0, .int .u8 0, .int .u8 0, .int .u8 0, .int .u8 0, .int .u8 0, .int .u8 0, .int .u8 0, .int .u8 0, .int .u8 0, .int .u8 0, .int .u8 0, .int .u8 0] 37)).rowIs w.heap.size 37 24 (fun _ => .int .u8 0) :=
    World.rowIs_alloc w _ 37 _ (fun i hi => by
      have h24 : i < 24 := hi
      exact zero_row i h24)
  go_loopw [3, 5] (fun uv i wr => ∃ (j u : Nat) (l : List UInt8) (f : Nat → Value), j + 1 + l.length = 24 ∧ i = .int .i64 ((j + 1 : Nat) : Int) ∧ uv = .int .u64 (u : Int) ∧ wr.rowIs w.heap.size 37 24 f ∧ Hid (∀ t (h : t < l.length), f (j + 1 + t) = .int .u8 (l[t].toNat : Int)) ∧ Hid (Lib.decDigits U = Lib.decDigits u ++ l) ∧ u ≤ 18446744073709551615 ∧ Below w.heap.size w wr)
    (fun _ i _ => (intOf i).toNat)
  case atStart => exact ⟨23, U, [], fun _ => .int .u8 0, rfl, rfl, rfl, R0, hid_mk (fun t h => by cases h), by simp [Hid], hU, (Below.refl _ _).alloc (Nat.le_refl _) _⟩
  case round =>
    clear R0
    obtain ⟨j, u, l, f, hj, rfl, rfl, hrow, hf, hd, hu, hnx⟩ := hrel
    have g1 := hrow.cell (i := j) (by omega)
    have g2 := hrow.frozen j
    have hj0 : 1 ≤ j := by
      have h2 := dec_le20 U hU
      have h3 := congrArg List.length hd.out
      rw [List.length_append] at h3
      have h4 := dec_pos u
      omega
    have hb : (48 : Int) + (u : Int) % 10 ≤ 57 := by omega
    have R := hrow.set j (.int .u8 (48 + (u : Int) % 10))
    have HR : Hid (∀ t (h : t < (UInt8.ofNat (48 + u % 10) :: l).length), (fun i => if i = j then Value.int .u8 (48 + (u : Int) % 10) else f i) (j + t) = .int .u8 ((UInt8.ofNat (48 + u % 10) :: l)[t].toNat : Int)) := cons_row hf.out
    have S : Below w.heap.size w (wr.setCell ⟨w.heap.size, j, none⟩ (.int .u8 (48 + (u : Int) % 10))) := hnx.setCell (Nat.le_refl _) _
    by_cases hlt : u < 10
    · have hz : ((u : Int) / 10 == 0) = true := by simp; omega
      have HD : Hid (Lib.decDigits U = UInt8.ofNat (48 + u % 10) :: l) := by show _ = _; rw [hd.out, Lib.decDigits_one hlt, Nat.mod_eq_of_lt hlt]; rfl
      have hsl := cut_buf w.heap.size j (by omega)
      obtain ⟨l', hl'⟩ : ∃ l', l' = UInt8.ofNat (48 + u % 10) :: l := ⟨_, rfl⟩
      rw [← hl'] at HR HD
      have hcv := text_of R (l := l') (by rw [hl']; simp; omega) HR.out
      have hl3 : l'.length ≤ 24 := by rw [hl']; simp; omega
      have hl4 : ¬ 9223372036854775807 < 1 + l'.length := by omega
      clear hd hf HR hl'
      go_wp2
      go_ret
      exact ⟨by rw [num_neg U h0, HD.out]; rfl, S⟩
    · have hz : ((u : Int) / 10 == 0) = false := by simp; omega
      have HD : Hid (Lib.decDigits U = Lib.decDigits (u / 10) ++ UInt8.ofNat (48 + u % 10) :: l) := by show _ = _; rw [hd.out, dec_big hlt]; simp
      clear hd hf
      obtain ⟨j', rfl⟩ : ∃ j', j = j' + 1 := ⟨j - 1, by omega⟩
      go_wp2
      go_roundw
      case rel => exact ⟨j', u / 10, _, _, by simp; omega, by go_num, by go_num, R, HR, HD, by omega, S⟩
      case measure => simp [intOf]; omega

/-- The text of n, at every int64. -/
theorem decimal_any (n : Int) (w : World) (h0 : -9223372036854775808 ≤ n) (h1 : n ≤ 9223372036854775807) :
    Calls Tryd.prog 7 #[.int .i64 n] w fun e w' => e = .returned (.string (num n)) ∧ Below w.heap.size w w' := by
  by_cases h : n < 0
  · obtain ⟨U, rfl⟩ : ∃ U : Nat, n = -(U : Int) := ⟨(-n).toNat, by omega⟩
    exact decimal_neg U w (by omega) (by omega)
  · obtain ⟨U, rfl⟩ : ∃ U : Nat, n = (U : Int) := ⟨n.toNat, by omega⟩
    exact decimal_pos U w (by omega)

end Go.Proofs.Qxb6628927aDoor
