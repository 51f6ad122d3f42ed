/-
  The walks of the leaf functions: zzBytes (5, 8), isIndentByte (9), isBoundaryAt (10), restBlank (11), allDigitsIn (12), decimalValue (13), isBlank (16), tabWidth (17), isSpace (18), indentWidth (15). Each only reads.
-/
import Derived.Test.Qxb6628227aRows
import Derived.Test.Qxb6628227aPlain
import Derived.WalkKit
import Derived.WalkSpells
namespace Go.Proofs.Qxb6628227a
open Go.RowKit
set_option linter.unusedVariables false

/-- The row of bytes that a slice leads to. -/
def Row (w : World) (b off n : Nat) (z : Nat → Int) : Prop := b < w.heap.size ∧ ∀ j, j < n → w.cell? ⟨b, off + j, none⟩ = some (.int .u8 (z j))

theorem Row.later {w w' : World} {b off n B : Nat} {z : Nat → Int} (h : Row w b off n z) (hb : Below B w w') (hB : b < B) : Row w' b off n z :=
  ⟨Nat.lt_of_lt_of_le h.1 hb.size, fun j hj => by rw [hb.cell (p := ⟨b, off + j, none⟩) hB]; exact h.2 j hj⟩

theorem Row.from_ {w : World} {b off n : Nat} {z : Nat → Int} (h : Row w b off n z) (i : Nat) (hi : i ≤ n) : Row w b (off + i) (n - i) (shift z i) :=
  ⟨h.1, fun j hj => by rw [Nat.add_assoc]; exact h.2 (i + j) (by omega)⟩

/-- Every byte is a byte. -/
def Rng (z : Nat → Int) : Prop := ∀ j, 0 ≤ z j ∧ z j ≤ 255

theorem ret_bool {a b : Bool} (h : a = b) : Ending.returned (.bool a) = .returned (.bool b) := by rw [h]
theorem ret_int {k : IntKind} {a b : Int} (h : a = b) : Ending.returned (.int k a) = .returned (.int k b) := by rw [h]

set_option maxHeartbeats 400000 in
theorem bytes5_any (a : Option Addr) (n cap : Nat) (c : Int) (w : World) (hn : n ≤ maxLen) :
    Calls Try.prog 5 #[.slice a n cap, .int .i64 c] w fun e w' => (∃ r : Bool, e = .returned (.bool r)) ∧ w' = w := by
  unfold maxLen at hn
  go_enter Try.func5, Try.ntmps5
  go_wp2
  all_goals
    go_ret
    exact ⟨⟨_, rfl⟩, rfl⟩

set_option maxHeartbeats 400000 in
theorem bytes8_any (a : Option Addr) (n cap : Nat) (c : Int) (w : World) (hn : n ≤ maxLen) :
    Calls Try.prog 8 #[.slice a n cap, .int .i64 c] w fun e w' => (∃ r : Bool, e = .returned (.bool r)) ∧ w' = w := by
  unfold maxLen at hn
  go_enter Try.func8, Try.ntmps8
  go_wp2
  all_goals
    go_ret
    exact ⟨⟨_, rfl⟩, rfl⟩

set_option maxHeartbeats 400000 in
theorem indent_byte (x : Int) (w : World) : Calls Try.prog 9 #[.int .u8 x] w fun e w' => e = .returned (.bool (isInd x)) ∧ w' = w := by
  cases h1 : (x == 32)
  all_goals cases h2 : (x == 9)
  all_goals
    go_enter Try.func9, Try.ntmps9
    go_wp2
    go_ret
    exact ⟨ret_bool (by unfold isInd; rw [h1, h2]; rfl), rfl⟩

set_option maxHeartbeats 1000000 in
theorem space_byte (x : Int) (w : World) : Calls Try.prog 18 #[.int .u8 x] w fun e w' => e = .returned (.bool (bl x)) ∧ w' = w := by
  cases h1 : (x == 32)
  all_goals cases h2 : (x == 9)
  all_goals cases h3 : (x == 10)
  all_goals cases h4 : (x == 13)
  all_goals
    go_enter Try.func18, Try.ntmps18
    go_wp2
    go_ret
    exact ⟨ret_bool (by unfold bl; rw [h1, h2, h3, h4]; rfl), rfl⟩

set_option maxHeartbeats 400000 in
theorem tab_width (c : Int) (w : World) (h0 : 0 ≤ c) (h1 : c ≤ 4611686018427387904) : Calls Try.prog 17 #[.int .i64 c] w fun e w' => e = .returned (.int .i64 (4 - c % 4)) ∧ w' = w := by
  go_enter Try.func17, Try.ntmps17
  go_wp2
  go_ret
  exact ⟨rfl, rfl⟩

theorem beq_n (a b : Nat) (h : a = b) : ((a : Int) == (b : Int)) = true := by rw [beq_iff_eq]; omega
theorem bne_n (a b : Nat) (h : a ≠ b) : ((a : Int) == (b : Int)) = false := by rw [beq_eq_false_iff_ne]; omega

set_option maxHeartbeats 1000000 in
theorem boundary_at (b off n cap j : Nat) (z : Nat → Int) (x : Int) (w : World) (hx : x = (j : Int)) (hn : n ≤ 4611686018427387904) (hr : Row w b off n z) (hj : j ≤ n) :
    Calls Try.prog 10 #[.slice (some ⟨b, off, none⟩) n cap, .int .i64 x] w fun e w' => e = .returned (.bool (bnd z n j)) ∧ w' = w := by
  subst hx
  by_cases he : j = n
  · have h0 := beq_n j n he
    have HR : Hid (bnd z n j = true) := by show bnd z n j = true; unfold bnd; simp [he]
    clear he
    go_enter Try.func10, Try.ntmps10
    go_wp2
    go_ret
    exact ⟨ret_bool HR.out.symm, rfl⟩
  · have h0 := bne_n j n he
    have hlt : j < n := by omega
    have hc := hr.2 j hlt
    have HE : Hid (decide (j = n) = false) := by show decide (j = n) = false; simpa using he
    clear he
    cases h1 : (z j == 32)
    all_goals cases h2 : (z j == 9)
    all_goals cases h3 : (z j == 10)
    all_goals
      go_enter Try.func10, Try.ntmps10
      go_wp2
      go_ret
      exact ⟨ret_bool (by unfold bnd isEnd; rw [HE.out, h1, h2, h3]; rfl), rfl⟩

set_option maxHeartbeats 1000000 in
theorem rest_blank (b off n cap a : Nat) (z : Nat → Int) (x : Int) (w : World) (hx : x = (a : Int)) (hn : n ≤ 4611686018427387904) (hr : Row w b off n z) (ha : a ≤ n) :
    Calls Try.prog 11 #[.slice (some ⟨b, off, none⟩) n cap, .int .i64 x] w fun e w' => e = .returned (.bool (blankAll (shift z a) (n - a))) ∧ w' = w := by
  subst hx
  have HR : Hid (Row w b off n z) := hr
  clear hr
  go_enter Try.func11, Try.ntmps11
  go_wp2
  go_loop [5] (fun i => ∃ k : Nat, a ≤ k ∧ k ≤ n ∧ i = .int .i64 k ∧ Hid (blankAll (shift z a) (k - a) = true)) (fun i => n - (intOf i).toNat)
  case atStart => exact ⟨a, Nat.le_refl _, ha, rfl, by show blankAll _ _ = true; rw [Nat.sub_self]; rfl⟩
  case round =>
    obtain ⟨k, hk0, hk, rfl, hb⟩ := hrel
    by_cases hlt : k < n
    · have hc := HR.out.2 k hlt
      have HS : Hid (blankAll (shift z a) (k + 1 - a) = (blankAll (shift z a) (k - a) && bl (z k))) := by
        show blankAll _ _ = _
        rw [show k + 1 - a = k - a + 1 by omega, blankAll, shift, show a + (k - a) = k by omega]
      have HF : Hid (bl (z k) = false → blankAll (shift z a) (n - a) = false) := by
        intro hf
        have key : ∀ m, k + 1 - a ≤ m → blankAll (shift z a) m = false := by
          intro m
          induction m with
          | zero => intro h; omega
          | succ m ih =>
            intro h
            by_cases e : k + 1 - a ≤ m
            · rw [blankAll, ih e, Bool.false_and]
            · rw [show m + 1 = k + 1 - a by omega, HS.out, hf, Bool.and_false]
        exact key (n - a) (by omega)
      cases h1 : (z k == 32)
      all_goals cases h2 : (z k == 9)
      all_goals cases h3 : (z k == 10)
      all_goals cases h4 : (z k == 13)
      all_goals
        have n1 : (z k != 32) = !(z k == 32) := rfl
        have n2 : (z k != 9) = !(z k == 9) := rfl
        have n3 : (z k != 10) = !(z k == 10) := rfl
        have n4 : (z k != 13) = !(z k == 13) := rfl
        rw [h1] at n1
        rw [h2] at n2
        rw [h3] at n3
        rw [h4] at n4
        simp only [Bool.not_true, Bool.not_false] at n1 n2 n3 n4
        go_wp2
        first
          | (go_ret; exact ⟨ret_bool (HF.out (by unfold bl; rw [h1, h2, h3, h4]; rfl)).symm, rfl⟩)
          | (go_round
             case rel => exact ⟨k + 1, by omega, by omega, by go_num, by show blankAll _ _ = true; rw [HS.out, hb.out]; unfold bl; rw [h1, h2, h3, h4]; rfl⟩
             case measure => simp [intOf]; omega)
    · have HT : Hid (blankAll (shift z a) (n - a) = true) := by
        have := hb.out
        rwa [show k = n by omega] at this
      go_wp2
      go_ret
      exact ⟨ret_bool HT.out.symm, rfl⟩

end Go.Proofs.Qxb6628227a
