/-
  The walk of readListMarker (14), the ways that a bullet or a deep indentation take.
-/
import Derived.Test.Qxb6628227aLeaves2
namespace Go.Proofs.Qxb6628227a
open Go.RowKit
set_option linter.unusedVariables false

/-- The answer as readListMarker hands it back. -/
def ansV (m : Ans) : Value := .tuple #[.agg #[.int .i64 m.fin, .int .i64 m.fcol, .int .u8 m.ch, .int .i64 m.st, .bool m.em], .bool m.ok]

theorem bnd_true {z : Nat → Int} {n q : Nat} (hq : q ≤ n) (h : bnd z n q = true) :
    ¬ q < n ∨ (q < n ∧ (z q != 32) = false) ∨ (q < n ∧ (z q != 32) = true ∧ (z q != 9) = false) ∨ (q < n ∧ (z q != 32) = true ∧ (z q != 9) = true ∧ (z q != 10) = false) := by
  by_cases e : q = n
  · left; omega
  · right
    unfold bnd isEnd at h
    rw [show decide (q = n) = false by simpa using e, Bool.false_or] at h
    unfold bne
    cases h1 : (z q == 32)
    · cases h2 : (z q == 9)
      · cases h3 : (z q == 10)
        · rw [h1, h2, h3] at h; cases h
        · exact .inr (.inr ⟨by omega, rfl, rfl, rfl⟩)
      · exact .inr (.inl ⟨by omega, rfl, rfl⟩)
    · exact .inl ⟨by omega, rfl⟩

theorem bnd_false {z : Nat → Int} {n q : Nat} (hq : q ≤ n) (h : bnd z n q = false) : q < n ∧ (z q != 32) = true ∧ (z q != 9) = true ∧ (z q != 10) = true := by
  unfold bnd isEnd at h
  rw [Bool.or_eq_false_iff, Bool.or_eq_false_iff, Bool.or_eq_false_iff] at h
  obtain ⟨h0, ⟨h1, h2⟩, h3⟩ := h
  have : q ≠ n := by simpa using h0
  unfold bne
  exact ⟨by omega, by rw [h1]; rfl, by rw [h2]; rfl, by rw [h3]; rfl⟩

theorem bul_cases {x : Int} (h : isBul x = true) : (x == 45) = true ∨ ((x == 45) = false ∧ (x == 43) = true) ∨ ((x == 45) = false ∧ (x == 43) = false ∧ (x == 42) = true) := by
  unfold isBul at h
  cases h1 : (x == 45)
  · cases h2 : (x == 43)
    · rw [h1, h2] at h
      exact .inr (.inr ⟨rfl, rfl, by simpa using h⟩)
    · exact .inr (.inl ⟨rfl, rfl⟩)
  · exact .inl rfl

/-- What indentWidth answers, as a contract over every world in which the row lies. -/
def Ind (b n i : Nat) (z : Nat → Int) (col wd : Int) : Prop :=
  ∀ W, Row W b 0 n z → Calls Try.prog 15 #[.slice (some ⟨b, 0, none⟩) n n, .int .i64 col] W fun e w' => e = .returned (.tuple #[.int .i64 wd, .int .i64 (i : Nat)]) ∧ w' = W

theorem Row.cell0 {w : World} {b n : Nat} {z : Nat → Int} (h : Row w b 0 n z) (j : Nat) (hj : j < n) : w.cell? ⟨b, j, none⟩ = some (.int .u8 (z j)) := by
  have := h.2 j hj
  rwa [Nat.zero_add] at this

theorem Row.none0 {w : World} {b o m : Nat} {z : Nat → Int} (hb : b < w.heap.size) (hm : m = 0) : Row w b o m z := ⟨hb, fun j hj => by omega⟩

theorem ret_ans {a b c : Int} {c1 c2 : Int} {e1 e2 : Bool} (h : a = b) : Ending.returned (.tuple #[.agg #[.int .i64 c, .int .i64 a, .int .u8 c1, .int .i64 c2, .bool e1], .bool e2]) = .returned (.tuple #[.agg #[.int .i64 c, .int .i64 b, .int .u8 c1, .int .i64 c2, .bool e1], .bool e2]) := by rw [h]

set_option maxRecDepth 100000 in
set_option maxHeartbeats 4000000 in
/-- A bullet at the end of the line. -/
theorem read_bul_end (b n i : Nat) (z : Nat → Int) (col wd : Int) (w : World) (hn : n ≤ 1048577) (hr : Row w b 0 n z) (hind : Ind b n i z col wd)
    (w0 : 0 ≤ wd) (w3 : wd ≤ 3) (hi : i < n) (hb : isBul (z i) = true) (h4 : ¬ i + 1 < n) :
    Calls Try.prog 14 #[.slice (some ⟨b, 0, none⟩) n n, .int .i64 col] w fun e w' => e = .returned (ansV ⟨i + 1, wd + 1, z i, -1, blankAll (shift z (i + 1)) (n - (i + 1)), true⟩) ∧ Below w.heap.size w w' := by
  have HR : Hid (Row w b 0 n z) := hr
  have HI : Hid (Ind b n i z col wd) := hind
  have hbs := hr.1
  have hc := hr.cell0 i hi
  have e1 : ((i : Int) == (n : Int)) = false := by rw [beq_eq_false_iff_ne]; omega
  have hb3 := bul_cases hb
  clear hr hind hb
  rcases hb3 with b1 | ⟨b1, b2⟩ | ⟨b1, b2, b3⟩
  all_goals
    go_enter Try.func14, Try.ntmps14
    go_wp2_with fail
    refine (HI.out _ (HR.out.later ((Below.refl _ _).alloc (Nat.le_refl _) _) hbs)).mono ?_
    rintro e w' ⟨rfl, rfl⟩
    go_wp2_with fail
    have hrow := HR.out.later ((Below.refl _ w).alloc (Nat.le_refl _) (.cells #[.int .i64 0, .int .i64 0, .int .u8 (z i), .int .i64 (-1), .bool false] 30)) hbs
    refine (is_blank b 0 (n - (i + 1)) (n - (i + 1)) (shift z (i + 1)) _ (by omega) (Row.none0 hrow.1 (by omega))).mono ?_
    rintro e w' ⟨rfl, rfl⟩
    clear hrow
    go_wp2_with fail
    exact bodyPost_ret (v := .tuple #[.agg #[.int .i64 (i + 1), .int .i64 (wd + (i + 1) - i), .int .u8 (z i), .int .i64 (-1), .bool (blankAll (shift z (i + 1)) (n - (i + 1)))], .bool true]) (by simp [results, Try.results14, go_sem]) rfl ⟨ret_ans (by show wd + ((i : Int) + 1) - i = wd + 1; omega), (Below.refl _ _).alloc (Nat.le_refl _) _⟩

set_option maxRecDepth 100000 in
set_option maxHeartbeats 4000000 in
/-- A bullet with a blank behind it. -/
theorem read_bul_more (b n i : Nat) (z : Nat → Int) (col wd : Int) (w : World) (hn : n ≤ 1048577) (hr : Row w b 0 n z) (hind : Ind b n i z col wd)
    (w0 : 0 ≤ wd) (w3 : wd ≤ 3) (hi : i < n) (hb : isBul (z i) = true) (h4 : i + 1 < n)
    (he : (z (i + 1) != 32) = false ∨ ((z (i + 1) != 32) = true ∧ (z (i + 1) != 9) = false) ∨ ((z (i + 1) != 32) = true ∧ (z (i + 1) != 9) = true ∧ (z (i + 1) != 10) = false)) :
    Calls Try.prog 14 #[.slice (some ⟨b, 0, none⟩) n n, .int .i64 col] w fun e w' => e = .returned (ansV ⟨i + 1, wd + 1, z i, -1, blankAll (shift z (i + 1)) (n - (i + 1)), true⟩) ∧ Below w.heap.size w w' := by
  have HR : Hid (Row w b 0 n z) := hr
  have HI : Hid (Ind b n i z col wd) := hind
  have hbs := hr.1
  have hc := hr.cell0 i hi
  have e1 : ((i : Int) == (n : Int)) = false := by rw [beq_eq_false_iff_ne]; omega
  have hc1 := hr.cell0 (i + 1) h4
  have hb3 := bul_cases hb
  clear hr hind hb
  rcases hb3 with b1 | ⟨b1, b2⟩ | ⟨b1, b2, b3⟩
  all_goals rcases he with n1 | ⟨n1, n2⟩ | ⟨n1, n2, n3⟩
  all_goals
    go_enter Try.func14, Try.ntmps14
    go_wp2_with fail
    refine (HI.out _ (HR.out.later ((Below.refl _ _).alloc (Nat.le_refl _) _) hbs)).mono ?_
    rintro e w' ⟨rfl, rfl⟩
    go_wp2_with fail
    have hrow := HR.out.later ((Below.refl _ w).alloc (Nat.le_refl _) (.cells #[.int .i64 0, .int .i64 0, .int .u8 (z i), .int .i64 (-1), .bool false] 30)) hbs
    refine (is_blank b (i + 1) (n - (i + 1)) (n - (i + 1)) (shift z (i + 1)) _ (by omega) (by have := hrow.from_ (i + 1) (by omega); rwa [Nat.zero_add] at this)).mono ?_
    rintro e w' ⟨rfl, rfl⟩
    clear hrow
    go_wp2_with fail
    exact bodyPost_ret (v := .tuple #[.agg #[.int .i64 (i + 1), .int .i64 (wd + (i + 1) - i), .int .u8 (z i), .int .i64 (-1), .bool (blankAll (shift z (i + 1)) (n - (i + 1)))], .bool true]) (by simp [results, Try.results14, go_sem]) rfl ⟨ret_ans (by show wd + ((i : Int) + 1) - i = wd + 1; omega), (Below.refl _ _).alloc (Nat.le_refl _) _⟩

end Go.Proofs.Qxb6628227a
