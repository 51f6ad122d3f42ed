/-
  The walk of decimalValue (13); small facts that the model's walk wants.
-/
import Derived.Test.Qxb6628227aLeaves2
namespace Go.Proofs.Qxb6628227a
open Go.RowKit
set_option linter.unusedVariables false

/-- What the rounds hand on: the value of the last digits. -/
def DecRel (z : Nat → Int) (a k : Nat) (v m j : Value) : Prop :=
  ∃ (r : Nat) (val mul : Int), r ≤ k ∧ j = .int .i64 (((a + r : Nat) : Int) - 1) ∧ v = .int .i64 val ∧ m = .int .i64 mul ∧ 0 ≤ val ∧ val < mul ∧ 1 ≤ mul ∧ mul ≤ 1000000000 ∧ Hid (mul = 10 ^ (k - r) ∧ num (shift z a) k = num (shift z a) r * mul + val)

theorem DecRel.next {z : Nat → Int} {a k q : Nat} {val mul : Int} (hk : k ≤ 9) (hq : q + 1 ≤ k) (v0 : 0 ≤ val) (v1 : val < mul) (m1 : 1 ≤ mul) (hd : 48 ≤ z (a + q) ∧ z (a + q) ≤ 57)
    (h : mul = 10 ^ (k - (q + 1)) ∧ num (shift z a) k = num (shift z a) (q + 1) * mul + val) :
    mul ≤ 100000000 ∧ 0 ≤ val + (z (a + q) - 48) * mul ∧ val + (z (a + q) - 48) * mul ≤ 999999999 ∧ (z (a + q) - 48) * mul ≤ 900000000 ∧ 0 ≤ (z (a + q) - 48) * mul ∧
      val + (z (a + q) - 48) * mul < mul * 10 ∧ mul * 10 = 10 ^ (k - q) ∧ num (shift z a) k = num (shift z a) q * (mul * 10) + (val + (z (a + q) - 48) * mul) := by
  have hm : mul ≤ 100000000 := by
    rw [h.1]
    have : k - (q + 1) = 0 ∨ k - (q + 1) = 1 ∨ k - (q + 1) = 2 ∨ k - (q + 1) = 3 ∨ k - (q + 1) = 4 ∨ k - (q + 1) = 5 ∨ k - (q + 1) = 6 ∨ k - (q + 1) = 7 ∨ k - (q + 1) = 8 := by omega
    rcases this with e | e | e | e | e | e | e | e | e <;> (rw [e]; decide)
  have hx0 : 0 ≤ (z (a + q) - 48) * mul := Int.mul_nonneg (by omega) (by omega)
  have hx9 : (z (a + q) - 48) * mul ≤ 9 * mul := Int.mul_le_mul_of_nonneg_right (by omega) (by omega)
  refine ⟨hm, by omega, by omega, by omega, hx0, by omega, ?_, ?_⟩
  · rw [show k - q = k - (q + 1) + 1 by omega, Int.pow_succ, ← h.1]
  · rw [h.2, num]
    show (10 * num (shift z a) q + (z (a + q) - 48)) * mul + val = _
    rw [Int.add_mul, show num (shift z a) q * (mul * 10) = 10 * num (shift z a) q * mul by rw [Int.mul_comm mul 10, ← Int.mul_assoc, Int.mul_comm (num (shift z a) q) 10]]
    omega

set_option maxHeartbeats 1000000 in
theorem decimal_value (b off n cap a k : Nat) (z : Nat → Int) (x y : Int) (w : World) (hx : x = (a : Int)) (hy : y = ((a + k : Nat) : Int)) (hn : n ≤ 4611686018427387904) (hr : Row w b off n z) (hk : a + k ≤ n) (hk9 : k ≤ 9)
    (hd : ∀ q, q < k → 48 ≤ z (a + q) ∧ z (a + q) ≤ 57) :
    Calls Try.prog 13 #[.slice (some ⟨b, off, none⟩) n cap, .int .i64 x, .int .i64 y] w fun e w' => e = .returned (.int .i64 (num (shift z a) k)) ∧ w' = w := by
  subst hx
  subst hy
  have HR : Hid (Row w b off n z) := hr
  have HD : Hid (∀ q, q < k → 48 ≤ z (a + q) ∧ z (a + q) ≤ 57) := hd
  clear hr hd
  go_enter Try.func13, Try.ntmps13
  go_wp2
  go_loop [7, 8, 9] (fun v m j => DecRel z a k v m j) (fun _ _ j => (intOf j + 1 - a).toNat)
  case atStart => exact ⟨k, 0, 1, by omega, by go_num, rfl, rfl, by omega, by omega, by omega, by omega, by rw [Nat.sub_self]; rfl, by omega⟩
  case round =>
    obtain ⟨r, val, mul, hrk, rfl, rfl, rfl, v0, v1, m1, m2, hh⟩ := hrel
    rcases r with _ | q
    · have HV : Hid (val = num (shift z a) k) := by
        show val = _
        rw [hh.out.2]
        show val = 0 * mul + val
        omega
      have hl : ¬ ((a : Int) ≤ ((a + 0 : Nat) : Int) - 1) := by omega
      go_wp2
      go_ret
      exact ⟨ret_int HV.out, rfl⟩
    · have e : (((a + (q + 1) : Nat) : Int) - 1) = ((a + q : Nat) : Int) := by omega
      rw [e]
      clear e
      obtain ⟨d1, d2⟩ := HD.out q (by omega)
      have hc := HR.out.2 (a + q) (by omega)
      obtain ⟨n1, n2, n3, n4, n5, n6, n7, n8⟩ := DecRel.next hk9 hrk v0 v1 m1 ⟨d1, d2⟩ hh.out
      have HN : Hid (mul * 10 = 10 ^ (k - q) ∧ num (shift z a) k = num (shift z a) q * (mul * 10) + (val + (z (a + q) - 48) * mul)) := ⟨n7, n8⟩
      have hl : (a : Int) ≤ ((a + q : Nat) : Int) := by omega
      clear n7 n8
      go_wp2
      exact ⟨⟨q, _, _, by omega, rfl, rfl, rfl, n2, n6, by omega, by omega, HN⟩, by simp [intOf]; omega⟩

theorem nodel' {x : Int} (h : isDel x = false) : (x == 46) = false ∧ (x == 41) = false := by
  unfold isDel at h
  rw [Bool.or_eq_false_iff] at h
  exact h
theorem del_eq {x : Int} (h : isDel x = true) : (x == 46) = true ∨ ((x == 46) = false ∧ (x == 41) = true) := by
  unfold isDel at h
  cases h1 : (x == 46)
  · rw [h1, Bool.false_or] at h
    exact .inr ⟨rfl, h⟩
  · exact .inl rfl
theorem del_low {x : Int} (h : isDel x = true) : x < 48 := by
  rcases del_eq h with h1 | ⟨_, h1⟩ <;> (rw [beq_iff_eq] at h1; omega)

theorem bulM {x : Int} (h : isBul x = true) : (x == 45) = true ∨ ((x == 45) = false ∧ (x == 43) = true) ∨ ((x == 45) = false ∧ (x == 43) = false ∧ (x == 42) = true) := by
  unfold isBul at h
  cases h1 : (x == 45)
  · cases h2 : (x == 43)
    · rw [h1, h2] at h
      exact .inr (.inr ⟨rfl, rfl, by simpa using h⟩)
    · exact .inr (.inl ⟨rfl, rfl⟩)
  · exact .inl rfl
theorem nobulM {x : Int} (h : isBul x = false) : (x == 45) = false ∧ (x == 43) = false ∧ (x == 42) = false := by
  unfold isBul at h
  rw [Bool.or_eq_false_iff, Bool.or_eq_false_iff] at h
  exact ⟨h.1.1, h.1.2, h.2⟩
theorem digM (z : Nat → Int) (n i k q : Nat) (hk : lead isDig (shift z i) (n - i) = k) (hq : q < k) : 48 ≤ z (i + q) ∧ z (i + q) ≤ 57 := by
  have h := lead_all isDig (shift z i) (n - i) q (by omega)
  rcases dig_cases (z (i + q)) with h1 | h1 | h1
  · exact h1.2
  · rw [show shift z i q = z (i + q) from rfl, h1.1] at h; cases h
  · rw [show shift z i q = z (i + q) from rfl, h1.1] at h; cases h
theorem cellM {w : World} {b n : Nat} {z : Nat → Int} (h : Row w b 0 n z) (j : Nat) (hj : j < n) : w.cell? ⟨b, j, none⟩ = some (.int .u8 (z j)) := by
  have := h.2 j hj
  rwa [Nat.zero_add] at this

/-- The six values, one by one, as the model hands them back. -/
def sixM (m : Ans) : Value := .tuple #[.int .i64 m.fin, .int .i64 m.fcol, .int .u8 m.ch, .int .i64 m.st, .bool m.em, .bool m.ok]

end Go.Proofs.Qxb6628227a
