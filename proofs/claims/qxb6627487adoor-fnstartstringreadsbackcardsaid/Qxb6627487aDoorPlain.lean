/-
  Plain laws on decimal numerals and on the texts of a Start. No Go in sight.
-/
import Derived.Test.Qxb6627487aDoorText
namespace Go.Proofs.Qxb6627487aDoor

theorem dec_big (x : Nat) (hx : ¬ x < 10) : Lib.decDigits x = Lib.decDigits (x / 10) ++ [UInt8.ofNat (48 + x % 10)] := by rw [Lib.decDigits, dif_neg hx]

theorem dig_nat (x : Nat) (h : x < 10) : (UInt8.ofNat (48 + x)).toNat = 48 + x := UInt8.toNat_ofNat_of_lt' (by show 48 + _ < 256; omega)

theorem dec_inj : ∀ (u v : Nat), Lib.decDigits u = Lib.decDigits v → u = v := by
  intro u
  induction u using Nat.strongRecOn with
  | _ u ih =>
    intro v h
    have hl : Lib.nDigits u = Lib.nDigits v := by rw [← Lib.decDigits_length, ← Lib.decDigits_length, h]
    by_cases hu : u < 10
    · by_cases hv : v < 10
      · rw [Lib.decDigits_one hu, Lib.decDigits_one hv] at h
        simp only [List.cons.injEq, and_true] at h
        have := congrArg UInt8.toNat h
        rw [dig_nat u hu, dig_nat v hv] at this
        omega
      · rw [Lib.nDigits_small hu, Lib.nDigits_big hv] at hl
        have := Lib.nDigits_pos (v / 10)
        omega
    · by_cases hv : v < 10
      · rw [Lib.nDigits_small hv, Lib.nDigits_big hu] at hl
        have := Lib.nDigits_pos (u / 10)
        omega
      · rw [dec_big u hu, dec_big v hv] at h
        obtain ⟨h1, h2⟩ := List.append_inj' h rfl
        have e := ih (u / 10) (by omega) (v / 10) h1
        simp only [List.cons.injEq, and_true] at h2
        have := congrArg UInt8.toNat h2
        rw [dig_nat _ (by omega), dig_nat _ (by omega)] at this
        omega

theorem dec_digit (u : Nat) (c : UInt8) (h : c ∈ Lib.decDigits u) : 48 ≤ c.toNat ∧ c.toNat ≤ 57 := by
  rw [Lib.decDigits_eq] at h
  obtain ⟨t, _, rfl⟩ := List.mem_map.1 h
  unfold Lib.dg
  rw [dig_nat _ (by omega)]
  omega

theorem itoa_inj (a b : Int) (h : Lib.itoa a = Lib.itoa b) : a = b := by
  unfold Lib.itoa at h
  have hd : ∀ u v : Nat, ¬ (45 :: Lib.decDigits u = Lib.decDigits v) := fun u v e => by
    have := dec_digit v 45 (by rw [← e]; simp)
    simp at this
  split at h <;> split at h
  · simp only [List.cons.injEq, true_and] at h
    have := dec_inj _ _ h
    omega
  · exact absurd h (hd _ _)
  · exact absurd h.symm (hd _ _)
  · have := dec_inj _ _ h
    omega

theorem startList_inj (a b : Int) (h : startList a = startList b) : a = b := by
  unfold startList at h
  by_cases a0 : a = 0 <;> by_cases a1 : a = 1 <;> by_cases a2 : a = 2 <;> by_cases b0 : b = 0 <;> by_cases b1 : b = 1 <;> by_cases b2 : b = 2 <;> first | omega | skip
  all_goals
    simp only [a0, a1, a2, b0, b1, b2, if_true, if_false, Int.reduceEq] at h
    first
      | (exfalso; simp at h; done)
      | (simp only [List.append_assoc, List.append_cancel_left_eq, List.append_cancel_right_eq] at h; exact itoa_inj a b h)

theorem toList_start (a : Int) : (startStr a).toList = startList a := ByteArray.toList_eq _

theorem same_start (a b : Int) : ((startStr a).toList == (startStr b).toList) = (a == b) := by
  rw [Bool.eq_iff_iff, beq_iff_eq, beq_iff_eq, toList_start, toList_start]
  exact ⟨startList_inj a b, fun h => by rw [h]⟩

theorem start_pos (a : Int) : 0 < (startStr a).size := by
  show 0 < (startList a).toArray.size
  unfold startList
  split
  · simp
  split
  · simp
  split
  · simp
  · simp

/-- Which of the three names it is. -/
theorem names (a : Int) : ∃ c1 c2 c3 : Bool, ((startStr a).toList == [119, 97, 114, 109]) = c1 ∧ ((startStr a).toList == [99, 111, 108, 100]) = c2 ∧ ((startStr a).toList == [114, 101, 106, 101, 99, 116, 101, 100]) = c3 ∧
    ((a = 0 ∧ c1 = true ∧ c2 = false ∧ c3 = false) ∨ (a = 1 ∧ c1 = false ∧ c2 = true ∧ c3 = false) ∨ (a = 2 ∧ c1 = false ∧ c2 = false ∧ c3 = true) ∨ ((a < 0 ∨ (2 < a ∧ decide (a ≤ 2) = false)) ∧ c1 = false ∧ c2 = false ∧ c3 = false)) := by
  refine ⟨_, _, _, rfl, rfl, rfl, ?_⟩
  rw [toList_start]
  unfold startList
  by_cases a0 : a = 0
  · left; subst a0; decide
  by_cases a1 : a = 1
  · right; left; subst a1; decide
  by_cases a2 : a = 2
  · right; right; left; subst a2; decide
  right; right; right
  rw [if_neg a0, if_neg a1, if_neg a2]
  refine ⟨by rw [decide_eq_false_iff_not]; omega, ?_, ?_, ?_⟩ <;> (rw [beq_eq_false_iff_ne]; intro e; simp at e)

end Go.Proofs.Qxb6627487aDoor
