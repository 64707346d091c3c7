/-
  Seat b6628927aD: the walk of accountIndex (f8).
-/
import Derived.Test.Qxb6628927aDoorDecimal
namespace Go.Proofs.Qxb6628927aDoor
open Go.RowKit Go.Sort

/-- The number that a list of decimal digits says. -/
def valOf (l : List UInt8) : Nat := l.foldl (fun a c => a * 10 + (c.toNat - 48)) 0
theorem valOf_snoc (l : List UInt8) (c : UInt8) : valOf (l ++ [c]) = valOf l * 10 + (c.toNat - 48) := by simp [valOf]
theorem dig_byte (d : Nat) (h : d < 10) : (UInt8.ofNat (48 + d)).toNat = 48 + d := by rw [UInt8.toNat_ofNat']; omega
theorem valOf_dec (v : Nat) : valOf (Lib.decDigits v) = v := by
  induction v using Nat.strongRecOn with
  | _ v ih =>
    by_cases h : v < 10
    · rw [Lib.decDigits_one h]
      simp only [valOf, List.foldl_cons, List.foldl_nil, dig_byte v h]
      omega
    · rw [dec_big h, valOf_snoc, ih (v / 10) (by omega), dig_byte _ (by omega)]
      omega
theorem dec_digit (v : Nat) : ∀ c ∈ Lib.decDigits v, 48 ≤ c.toNat ∧ c.toNat ≤ 57 := by
  induction v using Nat.strongRecOn with
  | _ v ih =>
    intro c hc
    by_cases h : v < 10
    · rw [Lib.decDigits_one h] at hc
      simp at hc
      have := dig_byte v h
      rw [UInt8.ofNat_add] at this
      rw [hc]
      simp at this ⊢
      omega
    · rw [dec_big h] at hc
      rcases List.mem_append.1 hc with hc | hc
      · exact ih (v / 10) (by omega) c hc
      · obtain rfl := List.mem_singleton.1 hc
        rw [dig_byte _ (by omega)]
        omega
theorem dec_head (v : Nat) (hv : 1 ≤ v) : ∀ c, (Lib.decDigits v)[0]? = some c → c.toNat ≠ 48 := by
  induction v using Nat.strongRecOn with
  | _ v ih =>
    intro c hc
    by_cases h : v < 10
    · rw [Lib.decDigits_one h] at hc
      obtain rfl := Option.some.inj hc
      rw [dig_byte v h]
      omega
    · rw [dec_big h] at hc
      have hp := dec_pos (v / 10)
      rw [List.getElem?_append_left (by omega)] at hc
      exact ih (v / 10) (by omega) (by omega) c hc
theorem valOf_step (l : List UInt8) (k : Nat) (h : k < l.length) : valOf (l.take (k + 1)) = valOf (l.take k) * 10 + (l[k].toNat - 48) := by
  rw [List.take_add_one, List.getElem?_eq_getElem h]
  exact valOf_snoc _ _
theorem valOf_mono (l : List UInt8) (k : Nat) : ∀ j, valOf (l.take k) ≤ valOf (l.take (k + j)) := by
  intro j
  induction j with
  | zero => exact Nat.le_refl _
  | succ j ih =>
    by_cases h : k + j < l.length
    · rw [← Nat.add_assoc, valOf_step l (k + j) h]; omega
    · have e : l.take (k + (j + 1)) = l.take (k + j) := by rw [List.take_of_length_le (by omega), List.take_of_length_le (by omega)]
      rw [e]; exact ih
theorem valOf_le (l : List UInt8) (k : Nat) : valOf (l.take k) ≤ valOf l := by
  have := valOf_mono l k l.length
  rwa [List.take_of_length_le (by omega : l.length ≤ k + l.length)] at this

/-- What the walk wants of the digits. -/
theorem round_facts (r : ByteArray) (v : Nat) (mx : Int) (hr : r.data.toList = Lib.decDigits v) (hm : (v : Int) ≤ mx) (k : Nat) (hk : k < r.size) :
    48 ≤ (r[k].toNat : Int) ∧ (r[k].toNat : Int) ≤ 57 ∧ (valOf (r.data.toList.take (k + 1)) : Int) = (valOf (r.data.toList.take k) : Int) * 10 + ((r[k].toNat : Int) - 48) ∧ (valOf (r.data.toList.take (k + 1)) : Int) ≤ mx := by
  have hk' : k < r.data.toList.length := by simpa using hk
  have e : (r.data.toList[k]'hk') = r[k] := by simp; rfl
  have hmem : r[k] ∈ Lib.decDigits v := by
    rw [← hr, ← e]
    exact List.getElem_mem hk'
  have hd := dec_digit v _ hmem
  have hst := valOf_step r.data.toList k hk'
  rw [e] at hst
  have hle := valOf_le r.data.toList (k + 1)
  rw [hr, valOf_dec, ← hr] at hle
  refine ⟨by omega, by omega, by omega, by omega⟩

set_option maxHeartbeats 1000000 in
theorem index_any (s hd r : ByteArray) (v : Nat) (mx : Int) (w : World) (hs : s.size = hd.size + r.size) (hr1 : 1 ≤ r.size) (hr2 : r.size ≤ 20) (hh : hd.size ≤ 2000000) (e1 : s.extract 0 hd.size = hd) (e2 : s.extract hd.size (hd.size + r.size) = r)
    (hr : Hid (r.data.toList = Lib.decDigits v)) (hv : 1 ≤ v) (hm : (v : Int) ≤ mx) (hmx : mx ≤ 9223372036854775807) :
    Calls Tryd.prog 8 #[.string s, .string hd, .int .i64 mx] w fun e w' => e = .returned (.tuple #[.int .i64 (v : Int), .bool true]) ∧ w' = w := by
  have hr1' : 0 < r.size := by omega
  have h48 : (((r[0]'hr1').toNat : Int) == 48) = false := by
    have := dec_head v hv (r[0]'hr1') (by rw [← hr.out]; rw [List.getElem?_eq_getElem (by simpa using hr1')]; simp; rfl)
    simp; omega
  have hsl : ∀ wx, (Instr.slice 9 (.string s) (some (.int .i64 (hd.size : Int))) none none).run Tryd.prog wx = .ok (.string r) wx := by
    intro wx
    rw [run_slice_string_from_if wx 9 s .i64 (hd.size : Int) Tryd.underlying9, if_pos ⟨by omega, by omega⟩, hs]
    simp [e2]
  have HE2 : Hid (s.extract hd.size (hd.size + r.size) = r) := e2
  clear e2
  go_enter Tryd.func8, Tryd.ntmps8
  go_wp2
  go_loop [9, 10] (fun a i => ∃ k : Nat, k ≤ r.size ∧ i = .int .i64 (k : Int) ∧ a = .int .i64 (valOf (r.data.toList.take k) : Int)) (fun _ i => r.size - (intOf i).toNat)
  case atStart => exact ⟨0, Nat.zero_le _, rfl, rfl⟩
  case round =>
    obtain ⟨k, hk, rfl, rfl⟩ := hrel
    by_cases hlt : k < r.size
    · obtain ⟨g1, g2, g3, g4⟩ := round_facts r v mx hr.out hm k hlt
      have HV : Hid ((valOf (r.data.toList.take (k + 1)) : Int) = (valOf (r.data.toList.take k) : Int) * 10 + ((r[k].toNat : Int) - 48)) := g3
      rw [g3] at g4
      clear g3
      generalize valOf (r.data.toList.take k) = V0 at g4 HV ⊢
      go_wp2
      go_round
      case rel => exact ⟨k + 1, by omega, by go_num, by rw [HV.out]⟩
      case measure => simp [intOf]; omega
    · have hkr : k = r.size := by omega
      have hV : valOf (r.data.toList.take k) = v := by rw [List.take_of_length_le (by simp; omega), hr.out, valOf_dec]
      rw [hV]
      clear hV
      go_wp2
      go_ret2
      exact ⟨rfl, rfl⟩
end Go.Proofs.Qxb6628927aDoor
