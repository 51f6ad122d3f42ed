/-
  The walk of readListMarker (14), the ways that answer no ahead of the digits.
-/
import Derived.Test.Qxb6628227aRead
namespace Go.Proofs.Qxb6628227a
open Go.RowKit
set_option linter.unusedVariables false

set_option maxRecDepth 100000 in
set_option maxHeartbeats 4000000 in
/-- Too deep, or nothing but indentation. -/
theorem read_deep (b n i : Nat) (z : Nat → Int) (col wd : Int) (w : World) (hn : n ≤ 1048577) (hr : Row w b 0 n z) (hind : Ind b n i z col wd)
    (w0 : 0 ≤ wd) (h : 3 < wd ∨ (¬ 3 < wd ∧ ((i : Int) == (n : Int)) = true)) :
    Calls Try.prog 14 #[.slice (some ⟨b, 0, none⟩) n n, .int .i64 col] w fun e w' => e = .returned (ansV no) ∧ Below w.heap.size w w' := by
  have HR : Hid (Row w b 0 n z) := hr
  have HI : Hid (Ind b n i z col wd) := hind
  have hbs := hr.1
  clear hr hind
  rcases h with h1 | ⟨h1, h2⟩
  all_goals
    go_enter Try.func14, Try.ntmps14
    go_wp2_with fail
    refine (HI.out _ (HR.out.later ((Below.refl _ _).alloc (Nat.le_refl _) _) hbs)).mono ?_
    rintro e w' ⟨rfl, rfl⟩
    go_wp2_with fail
    exact bodyPost_ret (v := .tuple #[.agg #[.int .i64 0, .int .i64 0, .int .u8 0, .int .i64 0, .bool false], .bool false]) (by simp [results, Try.results14, go_sem]) rfl ⟨rfl, (Below.refl _ _).alloc (Nat.le_refl _) _⟩

set_option maxRecDepth 100000 in
set_option maxHeartbeats 4000000 in
/-- A bullet with something else behind it. -/
theorem read_bul_no (b n i : Nat) (z : Nat → Int) (col wd : Int) (w : World) (hn : n ≤ 1048577) (hr : Row w b 0 n z) (hind : Ind b n i z col wd)
    (w0 : 0 ≤ wd) (w3 : wd ≤ 3) (hi : i < n) (hb : isBul (z i) = true) (h4 : i + 1 < n) (n1 : (z (i + 1) != 32) = true) (n2 : (z (i + 1) != 9) = true) (n3 : (z (i + 1) != 10) = true) :
    Calls Try.prog 14 #[.slice (some ⟨b, 0, none⟩) n n, .int .i64 col] w fun e w' => e = .returned (ansV no) ∧ Below w.heap.size w w' := by
  have HR : Hid (Row w b 0 n z) := hr
  have HI : Hid (Ind b n i z col wd) := hind
  have hbs := hr.1
  have hc := hr.cell0 i hi
  have hc1 := hr.cell0 (i + 1) h4
  have e1 : ((i : Int) == (n : Int)) = false := by rw [beq_eq_false_iff_ne]; omega
  have hb3 := bul_cases hb
  clear hr hind hb
  rcases hb3 with b1 | ⟨b1, b2⟩ | ⟨b1, b2, b3⟩
  all_goals
    go_enter Try.func14, Try.ntmps14
    go_wp2_with fail
    refine (HI.out _ (HR.out.later ((Below.refl _ _).alloc (Nat.le_refl _) _) hbs)).mono ?_
    rintro e w' ⟨rfl, rfl⟩
    go_wp2_with fail
    exact bodyPost_ret (v := .tuple #[.agg #[.int .i64 0, .int .i64 0, .int .u8 0, .int .i64 0, .bool false], .bool false]) (by simp [results, Try.results14, go_sem]) rfl ⟨rfl, (Below.refl _ _).alloc (Nat.le_refl _) _⟩

theorem nobul {x : Int} (h : isBul x = false) : (x == 45) = false ∧ (x == 43) = false ∧ (x == 42) = false := by
  unfold isBul at h
  rw [Bool.or_eq_false_iff, Bool.or_eq_false_iff] at h
  exact ⟨h.1.1, h.1.2, h.2⟩

/-- Where the digits end, and why nothing is read there. -/
def Stop (z : Nat → Int) (n i k : Nat) : Prop := ¬ i + k < n ∨ (i + k < n ∧ z (i + k) < 48) ∨ (i + k < n ∧ ¬ z (i + k) < 48 ∧ 57 < z (i + k))

theorem stop_of (z : Nat → Int) (n i k : Nat) (hi : i ≤ n) (hk : lead isDig (shift z i) (n - i) = k) : Stop z n i k := by
  by_cases h : i + k < n
  · have hs := lead_stop isDig (shift z i) (n - i) (by omega)
    rw [hk] at hs
    rcases dig_cases (z (i + k)) with h1 | h1 | h1
    · rw [show shift z i k = z (i + k) from rfl, h1.1] at hs; cases hs
    · exact .inr (.inl ⟨h, h1.2⟩)
    · exact .inr (.inr ⟨h, h1.2.1, h1.2.2⟩)
  · exact .inl h

theorem dig_at (z : Nat → Int) (n i k q : Nat) (hk : lead isDig (shift z i) (n - i) = k) (hq : q < k) : 48 ≤ z (i + q) ∧ z (i + q) ≤ 57 := by
  have h := lead_all isDig (shift z i) (n - i) q (by omega)
  rcases dig_cases (z (i + q)) with h1 | h1 | h1
  · exact h1.2
  · rw [show shift z i q = z (i + q) from rfl, h1.1] at h; cases h
  · rw [show shift z i q = z (i + q) from rfl, h1.1] at h; cases h

set_option maxRecDepth 100000 in
set_option maxHeartbeats 8000000 in
/-- No digits, too many of them, or nothing but digits, or no delimiter behind them. -/
theorem read_dig_no (b n i k : Nat) (z : Nat → Int) (col wd : Int) (w : World) (hn : n ≤ 1048577) (hr : Row w b 0 n z) (hind : Ind b n i z col wd)
    (w0 : 0 ≤ wd) (w3 : wd ≤ 3) (hi : i < n) (hb : isBul (z i) = false) (hk : lead isDig (shift z i) (n - i) = k)
    (hno : k = 0 ∨ (1 ≤ k ∧ 9 < k) ∨ (1 ≤ k ∧ k ≤ 9 ∧ ((i : Int) + (k : Int) == (n : Int)) = true) ∨ (1 ≤ k ∧ k ≤ 9 ∧ i + k < n ∧ (z (i + k) != 46) = true ∧ (z (i + k) != 41) = true)) :
    Calls Try.prog 14 #[.slice (some ⟨b, 0, none⟩) n n, .int .i64 col] w fun e w' => e = .returned (ansV no) ∧ Below w.heap.size w w' := by
  have HR : Hid (Row w b 0 n z) := hr
  have HI : Hid (Ind b n i z col wd) := hind
  have HK : Hid (lead isDig (shift z i) (n - i) = k) := hk
  have hkn : i + k ≤ n := by have := lead_le isDig (shift z i) (n - i); omega
  have hbs := hr.1
  have hc := hr.cell0 i hi
  have e1 : ((i : Int) == (n : Int)) = false := by rw [beq_eq_false_iff_ne]; omega
  obtain ⟨b1, b2, b3⟩ := nobul hb
  have HN : Hid (k = 0 ∨ (1 ≤ k ∧ 9 < k) ∨ (1 ≤ k ∧ k ≤ 9 ∧ ((i : Int) + (k : Int) == (n : Int)) = true) ∨ (1 ≤ k ∧ k ≤ 9 ∧ i + k < n ∧ (z (i + k) != 46) = true ∧ (z (i + k) != 41) = true)) := hno
  clear hr hind hb hno hk
  go_enter Try.func14, Try.ntmps14
  go_wp2_with fail
  refine (HI.out _ (HR.out.later ((Below.refl _ _).alloc (Nat.le_refl _) _) hbs)).mono ?_
  rintro e w' ⟨rfl, rfl⟩
  go_wp2_with fail
  go_loop [7] (fun p => ∃ q : Nat, q ≤ k ∧ p = .int .i64 ((i : Int) + (q : Int))) (fun p => i + k - (intOf p).toNat)
  case atStart => exact ⟨0, by omega, by go_num⟩
  case round =>
    obtain ⟨q, hq, rfl⟩ := hrel
    by_cases hlt : q < k
    · obtain ⟨d1, d2⟩ := dig_at z n i k q HK.out hlt
      have hcq := HR.out.cell0 (i + q) (by omega)
      go_wp2_with fail
      go_round
      case rel => exact ⟨q + 1, by omega, by go_num⟩
      case measure => simp [intOf]; omega
    · have hqk : Hid (q = k) := by show q = k; omega
      have hst : Stop z n i q := by rw [hqk.out]; exact stop_of z n i k (by omega) HK.out
      have hno := HN.out
      rw [← hqk.out] at hno
      clear hlt
      rcases hst with s1 | ⟨s1, s2⟩ | ⟨s1, s2, s3⟩
      · rcases hno with h | ⟨h, h'⟩ | ⟨h, h', h''⟩ | ⟨h, h', h'', h3, h4⟩
        · omega
        · have t0 : ((i : Int) + (q : Int) == (i : Int)) = false := by rw [beq_eq_false_iff_ne]; omega
          go_wp2_with fail
          exact bodyPost_ret (v := .tuple #[.agg #[.int .i64 0, .int .i64 0, .int .u8 0, .int .i64 0, .bool false], .bool false]) (by simp [results, Try.results14, go_sem]) rfl ⟨rfl, (Below.refl _ _).alloc (Nat.le_refl _) _⟩
        · have t0 : ((i : Int) + (q : Int) == (i : Int)) = false := by rw [beq_eq_false_iff_ne]; omega
          go_wp2_with fail
          exact bodyPost_ret (v := .tuple #[.agg #[.int .i64 0, .int .i64 0, .int .u8 0, .int .i64 0, .bool false], .bool false]) (by simp [results, Try.results14, go_sem]) rfl ⟨rfl, (Below.refl _ _).alloc (Nat.le_refl _) _⟩
        · omega
      all_goals
        have hcq := HR.out.cell0 (i + q) s1
        have t9 : ((i : Int) + (q : Int) == (n : Int)) = false := by rw [beq_eq_false_iff_ne]; omega
        rcases hno with h | ⟨h, h'⟩ | ⟨h, h', h''⟩ | ⟨h, h', h'', h3, h4⟩
        · have t0 : ((i : Int) + (q : Int) == (i : Int)) = true := by rw [beq_iff_eq]; omega
          have H0 : Hid (q = 0) := h
          clear h
          go_wp2_with fail
          exact bodyPost_ret (v := .tuple #[.agg #[.int .i64 0, .int .i64 0, .int .u8 0, .int .i64 0, .bool false], .bool false]) (by simp [results, Try.results14, go_sem]) rfl ⟨rfl, (Below.refl _ _).alloc (Nat.le_refl _) _⟩
        · have t0 : ((i : Int) + (q : Int) == (i : Int)) = false := by rw [beq_eq_false_iff_ne]; omega
          go_wp2_with fail
          exact bodyPost_ret (v := .tuple #[.agg #[.int .i64 0, .int .i64 0, .int .u8 0, .int .i64 0, .bool false], .bool false]) (by simp [results, Try.results14, go_sem]) rfl ⟨rfl, (Below.refl _ _).alloc (Nat.le_refl _) _⟩
        · rw [t9] at h''; cases h''
        · have t0 : ((i : Int) + (q : Int) == (i : Int)) = false := by rw [beq_eq_false_iff_ne]; omega
          go_wp2_with fail
          exact bodyPost_ret (v := .tuple #[.agg #[.int .i64 0, .int .i64 0, .int .u8 0, .int .i64 0, .bool false], .bool false]) (by simp [results, Try.results14, go_sem]) rfl ⟨rfl, (Below.refl _ _).alloc (Nat.le_refl _) _⟩

end Go.Proofs.Qxb6628227a
