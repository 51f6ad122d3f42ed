/-
  Plain numbers: the digits that zzItoa lays into its array of 24 cells, from the end.
-/
import Derived.Lib.ItoaMem
namespace Go.Proofs.Qxb6627019aFmt
open Go

/-- After k rounds: the last k decimal digits of u0 stand in the last k cells; u is what is left of the number. -/
def DigInv (u0 k : Nat) (u : Int) (arr : Array Value) : Prop :=
  arr.size = 24 ∧ k ≤ 20 ∧ u = ((u0 / 10 ^ k : Nat) : Int) ∧ (k = 0 ∨ 10 ^ (k - 1) ≤ u0) ∧ ∀ j, j < k → arr[23 - j]? = some (.int .u8 ((Lib.dg u0 j).toNat : Int))

theorem DigInv.start (u0 : Nat) (arr : Array Value) (h : arr.size = 24) : DigInv u0 0 (u0 : Int) arr :=
  ⟨h, by omega, by simp, .inl rfl, fun j hj => by omega⟩

theorem pow_le_of_div_pos {u0 k : Nat} (h : 0 < u0 / 10 ^ k) : 10 ^ k ≤ u0 := by
  rcases Nat.lt_or_ge u0 (10 ^ k) with h1 | h1
  · rw [Nat.div_eq_of_lt h1] at h; omega
  · exact h1

theorem DigInv.lt {u0 k : Nat} {u : Int} {arr : Array Value} (h : DigInv u0 k u arr) (hu : 0 < u) (h0 : u0 < 10 ^ 20) : k < 20 := by
  obtain ⟨_, _, h3, _, _⟩ := h
  have hp : 10 ^ k ≤ u0 := pow_le_of_div_pos (by omega)
  rcases Nat.lt_or_ge k 20 with h1 | h1
  · exact h1
  · have := Nat.pow_le_pow_right (n := 10) (by omega) h1
    omega

theorem DigInv.step {u0 k : Nat} {u : Int} {arr : Array Value} (h : DigInv u0 k u arr) (hu : 0 < u) (h0 : u0 < 10 ^ 20) :
    DigInv u0 (k + 1) (u / 10) (arr.setIfInBounds (23 - k) (.int .u8 (48 + u % 10))) := by
  have hk := h.lt hu h0
  obtain ⟨h1, h2, h3, h4, h5⟩ := h
  have hp : 10 ^ k ≤ u0 := pow_le_of_div_pos (by omega)
  refine ⟨by simp [h1], by omega, ?_, .inr (by simpa using hp), ?_⟩
  · rw [h3, Nat.pow_succ, ← Nat.div_div_eq_div_mul]; omega
  · intro j hj
    rw [Array.getElem?_setIfInBounds]
    by_cases e : j = k
    · subst e
      rw [if_pos rfl, if_pos (by omega)]
      congr 2
      unfold Lib.dg
      rw [UInt8.toNat_ofNat_of_lt' (by show 48 + _ < 256; omega)]
      omega
    · rw [if_neg (by omega)]
      exact h5 j (by omega)

/-- At the end: as many rounds as the number has digits; the cells hold its numeral. -/
theorem DigInv.done {u0 k : Nat} {u : Int} {arr : Array Value} (h : DigInv u0 k u arr) (hu : u = 0) (h1 : 1 ≤ u0) :
    k = (Lib.decDigits u0).length ∧ 1 ≤ k ∧ ∀ j (hj : j < (Lib.decDigits u0).length), arr[24 - k + j]? = some (.int .u8 ((Lib.decDigits u0)[j].toNat : Int)) := by
  obtain ⟨g1, g2, g3, g4, g5⟩ := h
  have hz : u0 / 10 ^ k = 0 := by omega
  have hlt : u0 < 10 ^ k := by
    rcases Nat.lt_or_ge u0 (10 ^ k) with h' | h'
    · exact h'
    · have := Nat.div_pos h' (Nat.pow_pos (by omega)); omega
  have hk : 1 ≤ k := by
    rcases Nat.eq_zero_or_pos k with e | e
    · subst e; simp at hlt; omega
    · exact e
  obtain ⟨m, rfl⟩ : ∃ m, k = m + 1 := ⟨k - 1, by omega⟩
  have hn : Lib.nDigits u0 = m + 1 := Lib.nDigits_unique m u0 (by rcases g4 with g4 | g4; omega; simpa using g4) hlt
  refine ⟨by rw [Lib.decDigits_length, hn], hk, fun j hj => ?_⟩
  rw [Lib.decDigits_length, hn] at hj
  have hd := g5 (m - j) (by omega)
  rw [show 24 - (m + 1) + j = 23 - (m - j) by omega, hd]
  congr 3
  have e : (Lib.decDigits u0)[j]? = some (Lib.dg u0 (m - j)) := by
    rw [Lib.decDigits_eq, hn]
    simp [hj]
  obtain ⟨hj', e'⟩ := List.getElem?_eq_some_iff.1 e
  rw [e']

end Go.Proofs.Qxb6627019aFmt
