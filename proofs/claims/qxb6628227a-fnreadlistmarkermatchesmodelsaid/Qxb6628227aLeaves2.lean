/-
  The walks of isBlank (16), indentWidth (15), allDigitsIn (12), decimalValue (13).
-/
import Derived.Test.Qxb6628227aLeaves
namespace Go.Proofs.Qxb6628227a
open Go.RowKit
set_option linter.unusedVariables false

set_option maxHeartbeats 1000000 in
theorem is_blank (b off n cap : Nat) (z : Nat → Int) (w : World) (hn : n ≤ 4611686018427387904) (hr : Row w b off n z) :
    Calls Try.prog 16 #[.slice (some ⟨b, off, none⟩) n cap] w fun e w' => e = .returned (.bool (blankAll z n)) ∧ w' = w := by
  have HR : Hid (Row w b off n z) := hr
  clear hr
  go_enter Try.func16, Try.ntmps16
  go_wp2
  go_loop [7] (fun i => ∃ k : Nat, k ≤ n ∧ i = .int .i64 k ∧ Hid (blankAll z k = true)) (fun i => n - (intOf i).toNat)
  case atStart => exact ⟨0, Nat.zero_le _, rfl, rfl⟩
  case round =>
    obtain ⟨k, hk, rfl, hb⟩ := hrel
    by_cases hlt : k < n
    · have hc := HR.out.2 k hlt
      have HF : Hid (bl (z k) = false → blankAll z n = false) := by
        intro hf
        have key : ∀ m, k + 1 ≤ m → blankAll z m = false := by
          intro m
          induction m with
          | zero => intro h; omega
          | succ m ih =>
            intro h
            by_cases e : k + 1 ≤ m
            · rw [blankAll, ih e, Bool.false_and]
            · rw [show m + 1 = k + 1 by omega, blankAll, hf, Bool.and_false]
        exact key n (by omega)
      go_wp2_with fail
      refine (space_byte (z k) _).mono ?_
      rintro e w' ⟨rfl, rfl⟩
      cases hbl : bl (z k)
      · go_wp2
        go_ret
        exact ⟨ret_bool (HF.out hbl).symm, rfl⟩
      · go_wp2
        go_round
        case rel => exact ⟨k + 1, by omega, by go_num, by show blankAll _ _ = true; rw [blankAll, hb.out, hbl]; rfl⟩
        case measure => simp [intOf]; omega
    · have HT : Hid (blankAll z n = true) := by
        have := hb.out
        rwa [show k = n by omega] at this
      go_wp2
      go_ret
      exact ⟨ret_bool HT.out.symm, rfl⟩

theorem ret_pair {a b c d : Int} (h : a = c) (h' : b = d) : Ending.returned (.tuple #[.int .i64 a, .int .i64 b]) = .returned (.tuple #[.int .i64 c, .int .i64 d]) := by rw [h, h']

set_option maxHeartbeats 1000000 in
theorem indent_width (b off n cap : Nat) (z : Nat → Int) (col : Int) (w : World) (hn : n ≤ 4194304) (hr : Row w b off n z) (hz : Rng z) (c0 : 0 ≤ col) (c1 : col ≤ 1073741825) :
    Calls Try.prog 15 #[.slice (some ⟨b, off, none⟩) n cap, .int .i64 col] w fun e w' => e = .returned (.tuple #[.int .i64 (wid z col (lead isInd z n)), .int .i64 (lead isInd z n : Nat)]) ∧ w' = w := by
  have HR : Hid (Row w b off n z) := hr
  have HZ : Hid (Rng z) := hz
  clear hr hz
  go_enter Try.func15, Try.ntmps15
  go_wp2
  go_loop [4, 5] (fun d i => ∃ (k : Nat) (wd : Int), k ≤ n ∧ i = .int .i64 k ∧ d = .int .i64 wd ∧ (k : Int) ≤ wd ∧ wd ≤ 4 * (k : Int) ∧ Hid (wd = wid z col k ∧ ∀ j, j < k → isInd (z j) = true)) (fun _ i => n - (intOf i).toNat)
  case atStart => exact ⟨0, 0, Nat.zero_le _, rfl, rfl, by omega, by omega, rfl, fun j hj => by omega⟩
  case round =>
    obtain ⟨k, wd, hk, rfl, rfl, hw0, hw1, hd⟩ := hrel
    by_cases hlt : k < n
    · have hc := HR.out.2 k hlt
      have z0 := (HZ.out k).1
      have z1 := (HZ.out k).2
      have HS : Hid (isInd (z k) = true → ∀ j, j < k + 1 → isInd (z j) = true) := fun h j hj => by
        by_cases e : j = k
        · rw [e]; exact h
        · exact hd.out.2 j (by omega)
      cases h1 : (z k == 32)
      · cases h2 : (z k == 9)
        · have HL : Hid (lead isInd z n = k) := lead_eq isInd z n k hk hd.out.2 (.inr (by unfold isInd; rw [h1, h2]; rfl))
          go_wp2
          go_ret2
          exact ⟨ret_pair (by rw [HL.out]; exact hd.out.1) (by rw [HL.out]), rfl⟩
        · have HW : Hid (wid z col (k + 1) = wd + (4 - (col + wd) % 4)) := by
            show wid z col (k + 1) = _
            rw [wid, if_neg (by simpa using h1), ← hd.out.1]
          go_wp2_with fail
          refine (tab_width (col + wd) _ (by omega) (by omega)).mono ?_
          rintro e w' ⟨rfl, rfl⟩
          go_wp2
          go_round
          case rel => exact ⟨k + 1, _, by omega, by go_num, rfl, by omega, by omega, HW.out.symm, HS.out (by unfold isInd; rw [h1, h2]; rfl)⟩
          case measure => simp [intOf]; omega
      · have HW : Hid (wid z col (k + 1) = wd + 1) := by
          show wid z col (k + 1) = _
          rw [wid, if_pos (by simpa using h1), ← hd.out.1]
        go_wp2
        go_round
        case rel => exact ⟨k + 1, _, by omega, by go_num, rfl, by omega, by omega, HW.out.symm, HS.out (by unfold isInd; rw [h1]; rfl)⟩
        case measure => simp [intOf]; omega
    · have HL : Hid (lead isInd z n = k) := lead_eq isInd z n k hk hd.out.2 (.inl (by omega))
      go_wp2
      go_ret2
      exact ⟨ret_pair (by rw [HL.out]; exact hd.out.1) (by rw [HL.out]), rfl⟩

/-- Are the first m bytes digits? -/
def allDig (z : Nat → Int) : Nat → Bool
  | 0 => true
  | m + 1 => allDig z m && isDig (z m)

theorem allDig_all {z : Nat → Int} : ∀ {m : Nat}, allDig z m = true → ∀ j, j < m → isDig (z j) = true
  | 0, _, j, hj => by omega
  | m + 1, h, j, hj => by
    rw [allDig, Bool.and_eq_true] at h
    by_cases e : j = m
    · rw [e]; exact h.2
    · exact allDig_all h.1 j (by omega)

theorem allDig_of {z : Nat → Int} : ∀ {m : Nat}, (∀ j, j < m → isDig (z j) = true) → allDig z m = true
  | 0, _ => rfl
  | m + 1, h => by rw [allDig, allDig_of (fun j hj => h j (by omega)), h m (by omega)]; rfl

theorem allDig_lead (z : Nat → Int) (m M : Nat) (h : m ≤ M) : allDig z m = decide (m ≤ lead isDig z M) := by
  cases hd : decide (m ≤ lead isDig z M)
  · have h1 : ¬ m ≤ lead isDig z M := by simpa using hd
    have hs := lead_stop isDig z M (by omega)
    cases ha : allDig z m
    · rfl
    · rw [allDig_all ha _ (by omega)] at hs; cases hs
  · have h1 : m ≤ lead isDig z M := by simpa using hd
    exact allDig_of fun j hj => lead_all isDig z M j (by omega)

theorem dig_cases (x : Int) : (isDig x = true ∧ 48 ≤ x ∧ x ≤ 57) ∨ (isDig x = false ∧ x < 48) ∨ (isDig x = false ∧ ¬ x < 48 ∧ 57 < x) := by
  unfold isDig
  by_cases h1 : 48 ≤ x
  · by_cases h2 : x ≤ 57
    · left; simp [h1, h2]
    · right; right; simp [h1, h2]; omega
  · right; left; simp [h1]; omega

set_option maxHeartbeats 1000000 in
theorem all_digits (b off n cap a k : Nat) (z : Nat → Int) (x y : Int) (w : World) (hx : x = (a : Int)) (hy : y = ((a + k : Nat) : Int)) (hn : n ≤ 4611686018427387904) (hr : Row w b off n z) (hz : Rng z) (hk : a + k ≤ n) :
    Calls Try.prog 12 #[.slice (some ⟨b, off, none⟩) n cap, .int .i64 x, .int .i64 y] w fun e w' => e = .returned (.bool (allDig (shift z a) k)) ∧ w' = w := by
  subst hx
  subst hy
  have HR : Hid (Row w b off n z) := hr
  have HZ : Hid (Rng z) := hz
  clear hr hz
  go_enter Try.func12, Try.ntmps12
  go_wp2
  go_loop [7] (fun i => ∃ q : Nat, q ≤ k ∧ i = .int .i64 ((a + q : Nat) : Int) ∧ Hid (allDig (shift z a) q = true)) (fun i => a + k - (intOf i).toNat)
  case atStart => exact ⟨0, by omega, by go_num, rfl⟩
  case round =>
    obtain ⟨q, hq, rfl, hd⟩ := hrel
    by_cases hlt : q < k
    · have hc := HR.out.2 (a + q) (by omega)
      have HS : Hid (allDig (shift z a) (q + 1) = isDig (z (a + q))) := by
        show allDig _ _ = _
        rw [allDig, hd.out]; rfl
      have HF : Hid (isDig (z (a + q)) = false → allDig (shift z a) k = false) := by
        intro hf
        cases ha : allDig (shift z a) k
        · rfl
        · have h2 := allDig_all ha q hlt
          rw [show shift z a q = z (a + q) from rfl, hf] at h2
          cases h2
      have hl1 : ((a + q : Nat) : Int) < ((a + k : Nat) : Int) := by omega
      rcases dig_cases (z (a + q)) with ⟨hd1, d1, d2⟩ | ⟨hd1, d1⟩ | ⟨hd1, d1, d2⟩
      · have HD : Hid (isDig (z (a + q)) = true) := hd1
        clear hd1
        go_wp2
        go_round
        case rel => exact ⟨q + 1, by omega, by go_num, by show allDig _ _ = true; rw [HS.out]; exact HD.out⟩
        case measure => simp [intOf]; omega
      · have HD : Hid (isDig (z (a + q)) = false) := hd1
        clear hd1
        go_wp2
        go_ret
        exact ⟨ret_bool (HF.out HD.out).symm, rfl⟩
      · have HD : Hid (isDig (z (a + q)) = false) := hd1
        clear hd1
        go_wp2
        go_ret
        exact ⟨ret_bool (HF.out HD.out).symm, rfl⟩
    · have HT : Hid (allDig (shift z a) k = true) := by
        have := hd.out
        rwa [show q = k by omega] at this
      have hl1 : ¬ ((a + q : Nat) : Int) < ((a + k : Nat) : Int) := by omega
      go_wp2
      go_ret
      exact ⟨ret_bool HT.out.symm, rfl⟩

end Go.Proofs.Qxb6628227a
