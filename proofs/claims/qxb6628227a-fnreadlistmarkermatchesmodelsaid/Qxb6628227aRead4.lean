/-
  The walk of readListMarker (14): digits, a delimiter, and a blank behind it.
-/
import Derived.Test.Qxb6628227aRead3
namespace Go.Proofs.Qxb6628227a
open Go.RowKit
set_option linter.unusedVariables false

set_option maxRecDepth 100000 in
set_option maxHeartbeats 8000000 in
/-- .. with a blank behind it. -/
theorem read_dig_more (b n i k : Nat) (z : Nat → Int) (col wd : Int) (w : World) (hn : n ≤ 1048577) (hr : Row w b 0 n z) (hind : Ind b n i z col wd)
    (w0 : 0 ≤ wd) (w3 : wd ≤ 3) (hi : i < n) (hb : isBul (z i) = false) (hk : lead isDig (shift z i) (n - i) = k)
    (k1 : 1 ≤ k) (k9 : k ≤ 9) (hkn : i + k < n) (hd : (z (i + k) != 46) = false ∨ ((z (i + k) != 46) = true ∧ (z (i + k) != 41) = false)) (hlow : z (i + k) < 48) (h4 : i + k + 1 < n)
    (he : (z (i + k + 1) != 32) = false ∨ ((z (i + k + 1) != 32) = true ∧ (z (i + k + 1) != 9) = false) ∨ ((z (i + k + 1) != 32) = true ∧ (z (i + k + 1) != 9) = true ∧ (z (i + k + 1) != 10) = false)) :
    Calls Try.prog 14 #[.slice (some ⟨b, 0, none⟩) n n, .int .i64 col] w fun e w' => e = .returned (ansV ⟨i + k + 1, wd + (k + 1), z (i + k), num (shift z i) k, blankAll (shift z (i + k + 1)) (n - (i + k + 1)), true⟩) ∧ Below w.heap.size w w' := by
  have HR : Hid (Row w b 0 n z) := hr
  have HI : Hid (Ind b n i z col wd) := hind
  have HD : Hid (∀ q, q < k → 48 ≤ z (i + q) ∧ z (i + q) ≤ 57) := fun q hq => dig_at z n i k q hk hq
  have hbs := hr.1
  have hc := hr.cell0 i hi
  have hck := hr.cell0 (i + k) hkn
  have hck1 := hr.cell0 (i + k + 1) h4
  have e1 : ((i : Int) == (n : Int)) = false := by rw [beq_eq_false_iff_ne]; omega
  obtain ⟨b1, b2, b3⟩ := nobul hb
  have t0 : ((i : Int) + (k : Int) == (i : Int)) = false := by rw [beq_eq_false_iff_ne]; omega
  have t9 : ((i : Int) + (k : Int) == (n : Int)) = false := by rw [beq_eq_false_iff_ne]; omega
  clear hr hind hb hk
  rcases hd with hd | ⟨hd, hd2⟩
  all_goals
    go_enter Try.func14, Try.ntmps14
    go_wp2_with fail
    refine (HI.out _ (HR.out.later ((Below.refl _ _).alloc (Nat.le_refl _) _) hbs)).mono ?_
    rintro e w' ⟨rfl, rfl⟩
    go_wp2_with fail
    go_loop [7] (fun p => ∃ q : Nat, q ≤ k ∧ p = .int .i64 ((i : Int) + (q : Int))) (fun p => i + k - (intOf p).toNat)
    case atStart => exact ⟨0, by omega, by go_num⟩
    case round =>
      obtain ⟨q, hq, rfl⟩ := hrel
      by_cases hlt : q < k
      · obtain ⟨d1, d2⟩ := HD.out q hlt
        have hcq := HR.out.cell0 (i + q) (by omega)
        go_wp2_with fail
        go_round
        case rel => exact ⟨q + 1, by omega, by go_num⟩
        case measure => simp [intOf]; omega
      · have hqk : ((i : Int) + (q : Int)) = (i : Int) + (k : Int) := by omega
        rw [hqk]
        clear hqk hlt hq
        go_wp2_with fail
        go_region
        go_wp2_with fail
        go_loopw [95] (fun p wr => ∃ (q : Nat) (s : Int), q ≤ k ∧ p = .int .i64 (q : Int) ∧ 0 ≤ s ∧ s ≤ 999999999 ∧ Hid (wr = (w.alloc (.cells #[.int .i64 0, .int .i64 0, .int .u8 (z (i + k)), .int .i64 s, .bool false] 30)).drew) ∧ Hid (s = num (shift z i) q)) (fun p _ => k - (intOf p).toNat)
        case atStart => exact ⟨0, 0, by omega, rfl, by omega, by omega, rfl, rfl⟩
        case round =>
          obtain ⟨q, s, hq, rfl, s0, s9, hwr, hs⟩ := hrel
          have hwr' := hwr.out
          subst hwr'
          by_cases hlt : q < k
          · obtain ⟨d1, d2⟩ := HD.out q hlt
            have hcq := HR.out.cell0 (i + q) (by omega)
            have hs' := num_small z i (q + 1) (by omega) (fun r hr => HD.out r (by omega))
            have HS : Hid (num (shift z i) (q + 1) = 10 * s + (z (i + q) - 48)) := by
              show num (shift z i) (q + 1) = _
              rw [num, ← hs.out]; rfl
            have hs9 : 10 * s + (z (i + q) - 48) ≤ 999999999 := by rw [← HS.out]; exact hs'.2
            clear hs'
            go_wp2_with fail
            exact ⟨⟨q + 1, _, by omega, by go_num, by omega, hs9, rfl, HS.out.symm⟩, by simp [intOf]; omega⟩
          · have HN : Hid (s = num (shift z i) k) := by rw [show k = q by omega]; exact hs
            clear hs
            rcases he with n1 | ⟨n1, n2⟩ | ⟨n1, n2, n3⟩
            all_goals
              go_wp2_with fail
              have hrow := HR.out.later (((Below.refl _ w).alloc (Nat.le_refl _) (.cells #[.int .i64 0, .int .i64 0, .int .u8 (z (i + k)), .int .i64 s, .bool false] 30)).drew) hbs
              refine (is_blank b (i + k + 1) (n - (i + k + 1)) (n - (i + k + 1)) (shift z (i + k + 1)) _ (by omega) (by have := hrow.from_ (i + k + 1) (by omega); rwa [Nat.zero_add] at this)).mono ?_
              rintro e w' ⟨rfl, rfl⟩
              clear hrow
              go_wp2_with fail
              exact bodyPost_ret (v := .tuple #[.agg #[.int .i64 (i + k + 1), .int .i64 (wd + (i + k + 1) - i), .int .u8 (z (i + k)), .int .i64 s, .bool (blankAll (shift z (i + k + 1)) (n - (i + k + 1)))], .bool true]) (by simp [results, Try.results14, go_sem]) rfl ⟨by rw [ansV, HN.out, show wd + ((i : Int) + k + 1) - i = wd + (k + 1) by omega], ((Below.refl _ _).alloc (Nat.le_refl _) _).drew⟩

end Go.Proofs.Qxb6628227a
