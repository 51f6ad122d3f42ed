/-
  The walk of zzParseStartText (6) at the text of a Start.
-/
import Derived.Test.Qxb6627487aDoorDigits
namespace Go.Proofs.Qxb6627487aDoor
open Go.RowKit

/-- What the rounds hand on: the number that the first k digits make. -/
def Rel (D : ByteArray) (u : Nat) (m i : Value) : Prop :=
  ∃ (k : Nat) (z : Int), k ≤ D.size ∧ i = .int .i64 k ∧ m = .int .u64 z ∧ 0 ≤ z ∧ z ≤ 9223372036854775808 ∧ Hid (z = ((u / 10 ^ (Lib.nDigits u - k) : Nat) : Int))

theorem ret_pair {a b : Int} (h : a = b) : Ending.returned (.tuple #[.int .i64 a, .bool true]) = .returned (.tuple #[.int .i64 b, .bool true]) := by rw [h]

set_option maxHeartbeats 1000000 in
theorem parse_neg (t body D : ByteArray) (u : Nat) (w : World) (hu1 : 1 ≤ u) (hu : u ≤ 9223372036854775808)
    (ht1 : 8 ≤ t.size) (ht2 : t.size ≤ 40) (hD : Digs D u)
    (n1 : (t.toList == [119, 97, 114, 109]) = false) (n2 : (t.toList == [99, 111, 108, 100]) = false) (n3 : (t.toList == [114, 101, 106, 101, 99, 116, 101, 100]) = false)
    (hpre : ∀ X, (Instr.slice 9 (.string t) none (some (.int .i64 6)) none).run Tryd.prog X = .ok (.string ⟨#[83, 116, 97, 114, 116, 40]⟩) X)
    (hend : ∀ X, (Instr.index 9 (.string t) (.int .i64 ((t.size : Int) - 1))).run Tryd.prog X = .ok (.int .u8 41) X)
    (hbody : ∀ X, (Instr.slice 9 (.string t) (some (.int .i64 6)) (some (.int .i64 ((t.size : Int) - 1))) none).run Tryd.prog X = .ok (.string body) X)
    (hb0 : ∀ X, (Instr.index 9 (.string body) (.int .i64 0)).run Tryd.prog X = .ok (.int .u8 45) X)
    (hb1 : ∀ X, (Instr.slice 9 (.string body) (some (.int .i64 1)) none none).run Tryd.prog X = .ok (.string D) X) :
    Calls Tryd.prog 6 #[.string t] w fun e w' => e = .returned (.tuple #[.int .i64 (-(u : Int)), .bool true]) ∧ w' = w := by
  have hDs : Hid (D.size = Lib.nDigits u) := hD.size
  have d1 : 1 ≤ D.size := by rw [hD.size]; exact Lib.nDigits_pos u
  have d2 : D.size ≤ 19 := by rw [hD.size]; exact nDigits_le19 u hu
  have dl : ((D[0].toNat : Int) == 48) = false := by rw [beq_eq_false_iff_ne]; have := hD.lead (by omega); omega
  have e1 : ((D.size : Int) == 0) = false := by rw [beq_eq_false_iff_ne]; omega
  have e2 : decide (19 < (D.size : Int)) = false := by rw [decide_eq_false_iff_not]; omega
  have e3 : decide ((t.size : Int) < 8) = false := by rw [decide_eq_false_iff_not]; omega
  go_enter Tryd.func6, Tryd.ntmps6
  go_wp2
  go_loop [6, 7] (fun m i => Rel D u m i) (fun _ i => D.size - (intOf i).toNat)
  case atStart =>
    refine ⟨0, 0, by omega, rfl, rfl, by omega, by omega, ?_⟩
    show (0 : Int) = _
    rw [Nat.sub_zero, Nat.div_eq_of_lt (Lib.lt_pow_nDigits u)]
    rfl
  case round =>
    obtain ⟨k, z, hk, rfl, rfl, hz0, hz1, hz⟩ := hrel
    by_cases hlt : k < D.size
    · have hkd : k < Lib.nDigits u := by rw [← hDs.out]; exact hlt
      have hzs : z ≤ 922337203685477580 := by rw [hz.out]; have := pref_small u k hkd hu; omega
      have hc := hD.at_ k hlt
      have c1 : 48 ≤ (D[k].toNat : Int) := by omega
      have c2 : (D[k].toNat : Int) ≤ 57 := by omega
      have hnext : Hid (z * 10 + ((D[k].toNat : Int) - 48) = ((u / 10 ^ (Lib.nDigits u - (k + 1)) : Nat) : Int)) := by
        show _ = _
        have := pref_step u k hkd
        rw [hz.out, this, hc]
        omega
      have hle : Hid (z * 10 + ((D[k].toNat : Int) - 48) ≤ 9223372036854775808) := by
        show _ ≤ _
        rw [hnext.out]
        have := Nat.div_le_self u (10 ^ (Lib.nDigits u - (k + 1)))
        omega
      clear hc hkd
      go_wp2
      exact ⟨⟨k + 1, _, by omega, by go_num, rfl, by omega, hle.out, hnext⟩, by simp [intOf]; omega⟩
    · have hzu : Hid (z = (u : Int)) := by
        show z = _
        rw [hz.out, show k = Lib.nDigits u by rw [← hDs.out]; omega, Nat.sub_self, Nat.pow_zero, Nat.div_one]
      have hz2 : 1 ≤ z := by rw [hzu.out]; omega
      have hz3 : (z == 0) = false := by rw [beq_eq_false_iff_ne]; omega
      clear hz
      go_wp2
      go_ret2
      exact ⟨ret_pair (by have := hzu.out; omega), rfl⟩

set_option maxHeartbeats 1000000 in
theorem parse_pos (t D : ByteArray) (u : Nat) (w : World) (hu1 : 3 ≤ u) (hu0 : u ≤ 9223372036854775807)
    (ht1 : 8 ≤ t.size) (ht2 : t.size ≤ 40) (hD : Digs D u)
    (n1 : (t.toList == [119, 97, 114, 109]) = false) (n2 : (t.toList == [99, 111, 108, 100]) = false) (n3 : (t.toList == [114, 101, 106, 101, 99, 116, 101, 100]) = false)
    (hpre : ∀ X, (Instr.slice 9 (.string t) none (some (.int .i64 6)) none).run Tryd.prog X = .ok (.string ⟨#[83, 116, 97, 114, 116, 40]⟩) X)
    (hend : ∀ X, (Instr.index 9 (.string t) (.int .i64 ((t.size : Int) - 1))).run Tryd.prog X = .ok (.int .u8 41) X)
    (hbody : ∀ X, (Instr.slice 9 (.string t) (some (.int .i64 6)) (some (.int .i64 ((t.size : Int) - 1))) none).run Tryd.prog X = .ok (.string D) X) :
    Calls Tryd.prog 6 #[.string t] w fun e w' => e = .returned (.tuple #[.int .i64 (u : Int), .bool true]) ∧ w' = w := by
  have hu : u ≤ 9223372036854775808 := by omega
  have hDs : Hid (D.size = Lib.nDigits u) := hD.size
  have d1 : 1 ≤ D.size := by rw [hD.size]; exact Lib.nDigits_pos u
  have d2 : D.size ≤ 19 := by rw [hD.size]; exact nDigits_le19 u hu
  have dl : ((D[0].toNat : Int) == 48) = false := by rw [beq_eq_false_iff_ne]; have := hD.lead (by omega); omega
  have d45 : ((D[0].toNat : Int) == 45) = false := by rw [beq_eq_false_iff_ne]; have := hD.at_ 0 (by omega); omega
  have e1 : ((D.size : Int) == 0) = false := by rw [beq_eq_false_iff_ne]; omega
  have e2 : decide (19 < (D.size : Int)) = false := by rw [decide_eq_false_iff_not]; omega
  have e3 : decide ((t.size : Int) < 8) = false := by rw [decide_eq_false_iff_not]; omega
  go_enter Tryd.func6, Tryd.ntmps6
  go_wp2
  go_loop [6, 7] (fun m i => Rel D u m i) (fun _ i => D.size - (intOf i).toNat)
  case atStart =>
    refine ⟨0, 0, by omega, rfl, rfl, by omega, by omega, ?_⟩
    show (0 : Int) = _
    rw [Nat.sub_zero, Nat.div_eq_of_lt (Lib.lt_pow_nDigits u)]
    rfl
  case round =>
    obtain ⟨k, z, hk, rfl, rfl, hz0, hz1, hz⟩ := hrel
    by_cases hlt : k < D.size
    · have hkd : k < Lib.nDigits u := by rw [← hDs.out]; exact hlt
      have hzs : z ≤ 922337203685477580 := by rw [hz.out]; have := pref_small u k hkd hu; omega
      have hc := hD.at_ k hlt
      have c1 : 48 ≤ (D[k].toNat : Int) := by omega
      have c2 : (D[k].toNat : Int) ≤ 57 := by omega
      have hnext : Hid (z * 10 + ((D[k].toNat : Int) - 48) = ((u / 10 ^ (Lib.nDigits u - (k + 1)) : Nat) : Int)) := by
        show _ = _
        have := pref_step u k hkd
        rw [hz.out, this, hc]
        omega
      have hle : Hid (z * 10 + ((D[k].toNat : Int) - 48) ≤ 9223372036854775808) := by
        show _ ≤ _
        rw [hnext.out]
        have := Nat.div_le_self u (10 ^ (Lib.nDigits u - (k + 1)))
        omega
      clear hc hkd
      go_wp2
      exact ⟨⟨k + 1, _, by omega, by go_num, rfl, by omega, hle.out, hnext⟩, by simp [intOf]; omega⟩
    · have hzu : Hid (z = (u : Int)) := by
        show z = _
        rw [hz.out, show k = Lib.nDigits u by rw [← hDs.out]; omega, Nat.sub_self, Nat.pow_zero, Nat.div_one]
      have hz2 : 3 ≤ z := by rw [hzu.out]; omega
      have hz4 : z ≤ 9223372036854775807 := by rw [hzu.out]; omega
      have hz3 : (z == 0) = false := by rw [beq_eq_false_iff_ne]; omega
      clear hz
      go_wp2
      go_ret2
      exact ⟨ret_pair (by have := hzu.out; omega), rfl⟩

end Go.Proofs.Qxb6627487aDoor
