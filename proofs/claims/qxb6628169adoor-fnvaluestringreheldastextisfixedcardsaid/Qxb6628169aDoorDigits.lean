/-
  Plain facts on the digits of a decimal numeral.
-/
import Derived.Test.Qxb6628169aDoorText
namespace Go.Proofs.Qxb6628169aDoor
open Go.RowKit

theorem dec_big (x : Nat) (hx : ¬ x < 10) : Lib.decDigits x = Lib.decDigits (x / 10) ++ [UInt8.ofNat (48 + x % 10)] := by rw [Lib.decDigits, dif_neg hx]

theorem dig_nat (x : Nat) (h : x < 10) : (UInt8.ofNat (48 + x)).toNat = 48 + x := UInt8.toNat_ofNat_of_lt' (by show 48 + _ < 256; omega)

/-- The first k digits, as a number. -/
theorem dec_at (u k : Nat) (hk : k < Lib.nDigits u) : (Lib.decDigits u)[k]? = some (Lib.dg u (Lib.nDigits u - 1 - k)) := by
  rw [Lib.decDigits_eq]
  simp [hk]

theorem dg_nat (u j : Nat) : (Lib.dg u j).toNat = 48 + u / 10 ^ j % 10 := by
  unfold Lib.dg
  exact dig_nat _ (by omega)

theorem pref_step (u k : Nat) (hk : k < Lib.nDigits u) : u / 10 ^ (Lib.nDigits u - (k + 1)) = u / 10 ^ (Lib.nDigits u - k) * 10 + u / 10 ^ (Lib.nDigits u - 1 - k) % 10 := by
  obtain ⟨j, hj⟩ : ∃ j, Lib.nDigits u - k = j + 1 := ⟨Lib.nDigits u - k - 1, by omega⟩
  rw [hj, show Lib.nDigits u - (k + 1) = j by omega, show Lib.nDigits u - 1 - k = j by omega, Nat.pow_succ, ← Nat.div_div_eq_div_mul]
  omega

theorem pref_small (u k : Nat) (hk : k < Lib.nDigits u) (hu : u ≤ 9223372036854775808) : u / 10 ^ (Lib.nDigits u - k) ≤ 922337203685477580 := by
  obtain ⟨j, hj⟩ : ∃ j, Lib.nDigits u - k = j + 1 := ⟨Lib.nDigits u - k - 1, by omega⟩
  rw [hj, Nat.pow_succ, Nat.mul_comm, ← Nat.div_div_eq_div_mul]
  have := Nat.div_le_self (u / 10) (10 ^ j)
  omega

theorem nDigits_le19 (u : Nat) (h : u ≤ 9223372036854775808) : Lib.nDigits u ≤ 19 := by
  rcases Nat.lt_or_ge (Lib.nDigits u) 20 with h1 | h1
  · omega
  · have hp := Lib.nDigits_pos u
    obtain ⟨m, hm⟩ : ∃ m, Lib.nDigits u = m + 1 := ⟨Lib.nDigits u - 1, by omega⟩
    have hz : 10 ^ m ≤ u := by
      rcases Nat.lt_or_ge u (10 ^ m) with h2 | h2
      · exfalso
        have key : ∀ m u, u < 10 ^ m → Lib.nDigits u ≤ m ∨ m = 0 := by
          intro m
          induction m with
          | zero => intro u _; right; rfl
          | succ m ih =>
            intro u hu
            left
            by_cases hs : u < 10
            · rw [Lib.nDigits_small hs]; omega
            · rw [Lib.nDigits_big hs]
              have := ih (u / 10) (by rw [Nat.pow_succ] at hu; omega)
              rcases this with h | h
              · omega
              · subst h; simp at hu; omega
        have := key m u h2
        omega
      · exact h2
    have := Nat.pow_le_pow_right (n := 10) (by omega) (show 19 ≤ m by omega)
    omega

theorem lead (u : Nat) (h : 1 ≤ u) : 0 < (Lib.decDigits u).length ∧ (Lib.decDigits u)[0]? ≠ some 48 := by
  rw [Lib.decDigits_length]
  refine ⟨Lib.nDigits_pos u, ?_⟩
  induction u using Nat.strongRecOn with
  | _ u ih =>
    by_cases hs : u < 10
    · rw [Lib.decDigits_one hs]
      intro e
      simp only [List.getElem?_cons_zero, Option.some.injEq] at e
      have := congrArg UInt8.toNat e
      rw [dig_nat u hs] at this
      simp at this
      omega
    · rw [dec_big u hs, List.getElem?_append_left (by rw [Lib.decDigits_length]; exact Lib.nDigits_pos _)]
      exact ih (u / 10) (by omega) (by omega)

/-- What the walk is told of the digits: they stand from place o on. -/
structure Digs (T : ByteArray) (o u : Nat) : Prop where
  size : T.size = o + Lib.nDigits u
  at_ : ∀ k (h : o + k < T.size), T[o + k].toNat = 48 + u / 10 ^ (Lib.nDigits u - 1 - k) % 10

theorem digs (A : List UInt8) (u : Nat) : Digs ⟨(A ++ Lib.decDigits u).toArray⟩ A.length u := by
  have hs : (⟨(A ++ Lib.decDigits u).toArray⟩ : ByteArray).size = A.length + Lib.nDigits u := by
    show (A ++ Lib.decDigits u).toArray.size = _
    simp [Lib.decDigits_length]
  refine ⟨hs, ?_⟩
  intro k hk
  have hk' : k < Lib.nDigits u := by omega
  have e := dec_at u k hk'
  obtain ⟨h1, h2⟩ := List.getElem?_eq_some_iff.1 e
  have : (⟨(A ++ Lib.decDigits u).toArray⟩ : ByteArray)[A.length + k] = (A ++ Lib.decDigits u)[A.length + k]'(by simp; omega) := rfl
  rw [this, List.getElem_append_right (by omega)]
  simp only [Nat.add_sub_cancel_left]
  rw [h2, dg_nat]

/-- The first digit is no zero, but for the number 0. -/
theorem Digs.lead {T : ByteArray} {o u : Nat} (h : Digs T o u) (hu : 1 ≤ u) (ho : o < T.size) : T[o].toNat ≠ 48 := by
  have h0 := h.at_ 0 (by omega)
  simp only [Nat.add_zero, Nat.sub_zero] at h0
  rw [h0]
  have hl := (Qxb6628169aDoor.lead u hu).2
  have e := dec_at u 0 (Lib.nDigits_pos u)
  rw [e] at hl
  intro e1
  apply hl
  congr 1
  apply UInt8.toNat_inj.1
  rw [dg_nat]
  simpa using e1

end Go.Proofs.Qxb6628169aDoor
