/-
  The walk of zzParseCanonicalDecimal (7) at the numeral of an int64.
-/
import Derived.Test.Qxb6628169aDoorDigits
namespace Go.Proofs.Qxb6628169aDoor
open Go.RowKit

/-- What the rounds hand on: the number that the first j digits make. -/
def Rel (T : ByteArray) (o u : Nat) (m p : Value) : Prop :=
  ∃ (q : Nat) (z : Int), o ≤ q ∧ q ≤ T.size ∧ p = .int .i64 q ∧ m = .int .u64 z ∧ 0 ≤ z ∧ z ≤ 9223372036854775808 ∧ Hid (z = ((u / 10 ^ (Lib.nDigits u - (q - o)) : Nat) : Int))

theorem Rel.start (T : ByteArray) (o u : Nat) (h : o ≤ T.size) (p : Value) (hp : p = .int .i64 o) : Rel T o u (.int .u64 0) p := by
  refine ⟨o, 0, by omega, h, hp, rfl, by omega, by omega, ?_⟩
  show (0 : Int) = _
  rw [Nat.sub_self, Nat.sub_zero, Nat.div_eq_of_lt (Lib.lt_pow_nDigits u)]
  rfl

/-- What a round is told: the byte is a digit; the number goes on within bounds. -/
theorem Rel.facts {T : ByteArray} {o u q : Nat} {z : Int} (hD : Digs T o u) (hu : u ≤ 9223372036854775808) (ho : o ≤ q) (hq : q < T.size) (hz : z = ((u / 10 ^ (Lib.nDigits u - (q - o)) : Nat) : Int)) :
    z ≤ 922337203685477580 ∧ 48 ≤ (T[q].toNat : Int) ∧ (T[q].toNat : Int) ≤ 57 ∧ z * 10 + ((T[q].toNat : Int) - 48) = ((u / 10 ^ (Lib.nDigits u - (q + 1 - o)) : Nat) : Int) ∧ z * 10 + ((T[q].toNat : Int) - 48) ≤ 9223372036854775808 := by
  obtain ⟨j, rfl⟩ : ∃ j, q = o + j := ⟨q - o, by omega⟩
  have hkd : j < Lib.nDigits u := by have := hD.size; omega
  have hc := hD.at_ j hq
  rw [Nat.add_sub_cancel_left] at hz
  have hst := pref_step u j hkd
  have hsm := pref_small u j hkd hu
  have hnext : z * 10 + ((T[o + j].toNat : Int) - 48) = ((u / 10 ^ (Lib.nDigits u - (o + j + 1 - o)) : Nat) : Int) := by
    rw [show o + j + 1 - o = j + 1 by omega, hz, hst, hc]
    omega
  have hle := Nat.div_le_self u (10 ^ (Lib.nDigits u - (o + j + 1 - o)))
  exact ⟨by omega, by omega, by omega, hnext, by rw [hnext]; omega⟩

theorem ret_pair {a b : Int} (h : a = b) : Ending.returned (.tuple #[.int .i64 a, .bool true]) = .returned (.tuple #[.int .i64 b, .bool true]) := by rw [h]

set_option maxHeartbeats 1000000 in
theorem parse_neg (T : ByteArray) (u : Nat) (w : World) (hu1 : 1 ≤ u) (hu : u ≤ 9223372036854775808) (hD : Digs T 1 u)
    (h45 : ∀ X, (Instr.index 9 (.string T) (.int .i64 0)).run Tryd.prog X = .ok (.int .u8 45) X) :
    Calls Tryd.prog 7 #[.string T] w fun e w' => e = .returned (.tuple #[.int .i64 (-(u : Int)), .bool true]) ∧ w' = w := by
  have hDs : Hid (T.size = 1 + Lib.nDigits u) := hD.size
  have d1 : 2 ≤ T.size := by rw [hD.size]; have := Lib.nDigits_pos u; omega
  have d2 : T.size ≤ 20 := by rw [hD.size]; have := nDigits_le19 u hu; omega
  have dl : ((T[1].toNat : Int) == 48) = false := by rw [beq_eq_false_iff_ne]; have := hD.lead hu1 (by omega); omega
  have e1 : ((T.size : Int) == 0) = false := by rw [beq_eq_false_iff_ne]; omega
  have e2 : decide (20 < (T.size : Int)) = false := by rw [decide_eq_false_iff_not]; omega
  have e3 : decide ((T.size : Int) ≤ 1) = false := by rw [decide_eq_false_iff_not]; omega
  go_enter Tryd.func7, Tryd.ntmps7
  go_wp2
  go_loop [6, 7] (fun m p => Rel T 1 u m p) (fun _ p => T.size - (intOf p).toNat)
  case atStart => exact Rel.start T 1 u (by omega) _ rfl
  case round =>
    obtain ⟨q, z, ho, hk, rfl, rfl, hz0, hz1, hz⟩ := hrel
    by_cases hlt : q < T.size
    · obtain ⟨hzs, c1, c2, hnx, hle⟩ := Rel.facts hD hu ho hlt hz.out
      have hnext : Hid (z * 10 + ((T[q].toNat : Int) - 48) = _) := hnx
      clear hnx
      go_wp2
      exact ⟨⟨q + 1, _, by omega, by omega, by go_num, rfl, by omega, hle, hnext⟩, by simp [intOf]; omega⟩
    · have hzu : Hid (z = (u : Int)) := by
        show z = _
        rw [hz.out, show q - 1 = Lib.nDigits u by have := hDs.out; omega, Nat.sub_self, Nat.pow_zero, Nat.div_one]
      have hz2 : 1 ≤ z := by rw [hzu.out]; omega
      clear hz
      by_cases hl : z ≤ 9223372036854775807
      all_goals
        go_wp2
        go_ret2
        exact ⟨ret_pair (by have := hzu.out; omega), rfl⟩

set_option maxHeartbeats 1000000 in
theorem parse_pos (T : ByteArray) (u : Nat) (w : World) (hu0 : u ≤ 9223372036854775807) (hD : Digs T 0 u) :
    Calls Tryd.prog 7 #[.string T] w fun e w' => e = .returned (.tuple #[.int .i64 (u : Int), .bool true]) ∧ w' = w := by
  have hu : u ≤ 9223372036854775808 := by omega
  have hDs : Hid (T.size = 0 + Lib.nDigits u) := hD.size
  have d1 : 1 ≤ T.size := by rw [hD.size]; have := Lib.nDigits_pos u; omega
  have d2 : T.size ≤ 20 := by rw [hD.size]; have := nDigits_le19 u hu; omega
  have h45 : ((T[0].toNat : Int) == 45) = false := by rw [beq_eq_false_iff_ne]; have := hD.at_ 0 (by omega); simp only [Nat.add_zero] at this; omega
  have e1 : ((T.size : Int) == 0) = false := by rw [beq_eq_false_iff_ne]; omega
  have e2 : decide (20 < (T.size : Int)) = false := by rw [decide_eq_false_iff_not]; omega
  have e3 : ¬ T = ByteArray.empty := fun h => by
    have h2 := congrArg ByteArray.size h
    rw [ByteArray.size_empty] at h2
    omega
  have hlead : ((T[0].toNat : Int) == 48) = false ∨ (((T[0].toNat : Int) == 48) = true ∧ ((T.size : Int) != 1) = false) := by
    by_cases h0 : u = 0
    · right
      subst h0
      have hs := hD.size
      have hn : Lib.nDigits 0 = 1 := Lib.nDigits_small (by omega)
      have hc := hD.at_ 0 (by omega)
      simp only [Nat.add_zero, Nat.zero_div, Nat.zero_mod] at hc
      rw [hn] at hs
      exact ⟨by rw [beq_iff_eq]; omega, by rw [hs]; rfl⟩
    · left
      rw [beq_eq_false_iff_ne]
      have := hD.lead (by omega) (by omega)
      omega
  rcases hlead with dl | ⟨dl, dm⟩
  all_goals
    go_enter Tryd.func7, Tryd.ntmps7
    go_wp2
    go_loop [6, 7] (fun m p => Rel T 0 u m p) (fun _ p => T.size - (intOf p).toNat)
    case atStart => exact Rel.start T 0 u (by omega) _ rfl
    case round =>
      obtain ⟨q, z, ho, hk, rfl, rfl, hz0, hz1, hz⟩ := hrel
      by_cases hlt : q < T.size
      · obtain ⟨hzs, c1, c2, hnx, hle⟩ := Rel.facts hD hu ho hlt hz.out
        have hnext : Hid (z * 10 + ((T[q].toNat : Int) - 48) = _) := hnx
        clear hnx
        go_wp2
        exact ⟨⟨q + 1, _, by omega, by omega, by go_num, rfl, by omega, hle, hnext⟩, by simp [intOf]; omega⟩
      · have hzu : Hid (z = (u : Int)) := by
          show z = _
          rw [hz.out, show q - 0 = Lib.nDigits u by have := hDs.out; omega, Nat.sub_self, Nat.pow_zero, Nat.div_one]
        have hz2 : z ≤ 9223372036854775807 := by rw [hzu.out]; omega
        clear hz
        go_wp2
        go_ret2
        exact ⟨ret_pair hzu.out, rfl⟩

/-- The numeral of every int64 is read back. -/
theorem parse_any (n : Int) (w : World) (h0 : -9223372036854775808 ≤ n) (h1 : n ≤ 9223372036854775807) :
    Calls Tryd.prog 7 #[.string (numStr n)] w fun e w' => e = .returned (.tuple #[.int .i64 n, .bool true]) ∧ w' = w := by
  obtain ⟨u, hu⟩ : ∃ u : Nat, u = n.natAbs := ⟨_, rfl⟩
  by_cases hneg : n < 0
  · have hi : Lib.itoa n = [45] ++ Lib.decDigits u := by unfold Lib.itoa; rw [if_pos hneg, hu]; rfl
    have hd := digs [45] u
    have hs : numStr n = ⟨([45] ++ Lib.decDigits u).toArray⟩ := by unfold numStr; rw [hi]
    rw [← hs] at hd
    have := parse_neg (numStr n) u w (by omega) (by omega) hd (fun X => by
      have hz := hd.size
      simp only [List.length_singleton] at hz
      rw [run_index_string X 9 _ .i64 _ Tryd.underlying9, dif_pos (by omega)]
      have e2 : (numStr n)[(0 : Int).toNat]'(by simp only [Int.toNat_zero]; omega) = 45 := by
        simp only [hs]
        rfl
      rw [e2]; rfl)
    rw [show -(u : Int) = n by omega] at this
    exact this
  · have hi : Lib.itoa n = [] ++ Lib.decDigits u := by unfold Lib.itoa; rw [if_neg hneg, show n.toNat = u by omega]; rfl
    have hd := digs [] u
    have hs : numStr n = ⟨([] ++ Lib.decDigits u).toArray⟩ := by unfold numStr; rw [hi]
    rw [← hs] at hd
    have := parse_pos (numStr n) u w (by omega) hd
    rw [show (u : Int) = n by omega] at this
    exact this

end Go.Proofs.Qxb6628169aDoor
