/-
  The walk of modelListMarker (6): digits.
-/
import Derived.Test.Qxb6628227aModel
namespace Go.Proofs.Qxb6628227a
open Go.RowKit
set_option linter.unusedVariables false

set_option maxRecDepth 100000 in
set_option maxHeartbeats 8000000 in
/-- Digits, or something else. -/
theorem model_dig (b n : Nat) (z : Nat → Int) (col : Int) (w : World) (hn : n ≤ 1048576) (hr : Row w b 0 n z) (hz : Rng z) (c0 : 0 ≤ col) (c1 : col ≤ 1073741825)
    (hcond0 : ¬ (3 < wid z col (lead isInd z n) ∨ lead isInd z n = n) ∧ isBul (z (lead isInd z n)) = false) :
    Calls Try.prog 6 #[.slice (some ⟨b, 0, none⟩) n n, .int .i64 col] w fun e w' => e = .returned (sixM (rlm z n col)) ∧ w' = w := by
  have HR : Hid (Row w b 0 n z) := hr
  have HZ : Hid (Rng z) := hz
  obtain ⟨i, hil⟩ : ∃ i, lead isInd z n = i := ⟨_, rfl⟩
  have HP : Hid (lead isInd z n = i) := hil
  have hin : i ≤ n := by rw [← hil]; exact lead_le _ _ _
  obtain ⟨wd, hwd⟩ : ∃ wd, wid z col i = wd := ⟨_, rfl⟩
  have HWD : Hid (wid z col i = wd) := hwd
  have w0 : 0 ≤ wd := by rw [← hwd]; have := wid_bound z col i; omega
  have w4 : wd ≤ 4 * (i : Int) := by rw [← hwd]; have := wid_bound z col i; omega
  have hcond := hcond0
  rw [hil, hwd] at hcond
  have HH : Hid _ := hcond
  have HC : Hid (rlm z n col = tail z n i wd) := by show rlm z n col = _; unfold rlm; rw [hil, hwd]
  clear hr hz hil hwd hcond hcond0
  go_enter Try.func6, Try.ntmps6
  go_upto_block 0 with fail
  go_cut [10, 11] (fun s10 s11 w' => s10 = .int .i64 (col + wd) ∧ s11 = .int .i64 (i : Int) ∧ Hid (w' = w))
  case first =>
    go_wp2_with fail
    go_loop [10, 11] (fun c p => ∃ (q : Nat) (W : Int), q ≤ i ∧ p = .int .i64 (q : Int) ∧ c = .int .i64 (col + W) ∧ 0 ≤ W ∧ W ≤ 4 * (q : Int) ∧ Hid (W = wid z col q)) (fun _ p => i - (intOf p).toNat)
    case atStart => exact ⟨0, 0, by omega, rfl, by go_num, by omega, by omega, rfl⟩
    case round =>
      obtain ⟨q, W, hq, rfl, rfl, hW0, hW1, hW⟩ := hrel
      by_cases hlt : q < i
      · have hc := cellM HR.out q (by omega)
        have hi : isInd (z q) = true := lead_all isInd z n q (by rw [HP.out]; exact hlt)
        have hqn : (q : Int) < (n : Int) := by omega
        cases h32 : (z q == 32)
        · have hne : ¬ z q = 32 := by simpa using h32
          have HWn : Hid (wid z col (q + 1) = W + (4 - (col + W) % 4)) := by
            show wid z col (q + 1) = _
            rw [wid, if_neg hne, ← hW.out]
          clear hne
          go_wp2_with fail
          refine (indent_byte (z q) _).mono ?_
          rintro e w' ⟨rfl, hw⟩
          obtain rfl := hw.symm
          go_wp2_with fail
          exact ⟨⟨q + 1, W + (4 - (col + W) % 4), by omega, by go_num, by congr 1; omega, by omega, by omega, HWn.out.symm⟩, by simp [intOf]; omega⟩
        · have heq : Hid (z q = 32) := by show z q = 32; simpa using h32
          have HWn : Hid (wid z col (q + 1) = W + 1) := by
            show wid z col (q + 1) = _
            rw [wid, if_pos heq.out, ← hW.out]
          clear heq
          go_wp2_with fail
          refine (indent_byte (z q) _).mono ?_
          rintro e w' ⟨rfl, hw⟩
          obtain rfl := hw.symm
          go_wp2_with fail
          exact ⟨⟨q + 1, W + 1, by omega, by go_num, by congr 1; omega, by omega, by omega, HWn.out.symm⟩, by simp [intOf]; omega⟩
      · have hqi : (q : Int) = (i : Int) := by omega
        have hWw : W = wd := by rw [hW.out, show q = i by omega]; exact HWD.out
        rw [hqi, hWw]
        clear hqi hWw hW hW0 hW1
        by_cases hpn : i < n
        · have hc := cellM HR.out i hpn
          have hi : isInd (z i) = false := by have := lead_stop isInd z n (by rw [HP.out]; exact hpn); rwa [HP.out] at this
          go_wp2_with fail
          refine (indent_byte (z i) _).mono ?_
          rintro e w' ⟨rfl, hw⟩
          obtain rfl := hw.symm
          go_wp2_with fail
          go_meet
          case rel => exact ⟨rfl, rfl, rfl⟩
        · go_wp2_with fail
          go_meet
          case rel => exact ⟨rfl, rfl, rfl⟩
  case rest =>
    obtain ⟨rfl, rfl, hwc⟩ := hcut
    have hwc' := hwc.out
    subst hwc'
    clear hwc HP HWD
    have hcond := HH.out
    clear HH
    obtain ⟨hd, hb⟩ := hcond
    have hin' : i < n := by omega
    have hc := cellM HR.out i hin'
    have h3 : ¬ 3 < col + wd - col := by omega
    have h4 : ((i : Int) == (n : Int)) = false := by rw [beq_eq_false_iff_ne]; omega
    have HB : Hid (isBul (z i) = false) := hb
    have HD : Hid (¬ (3 < wd ∨ i = n)) := hd
    obtain ⟨b1, b2, b3⟩ := nobulM hb
    obtain ⟨K, hK⟩ : ∃ K, lead isDig (shift z i) (n - i) = K := ⟨_, rfl⟩
    have HK : Hid (lead isDig (shift z i) (n - i) = K) := hK
    have hKn : i + K ≤ n := by have := lead_le isDig (shift z i) (n - i); omega
    clear hb hd hK
    go_wp2_with fail
    go_loop [15] (fun s => ∃ k : Nat, 1 ≤ k ∧ k ≤ 10 ∧ k ≤ K + 1 ∧ s = .int .i64 (k : Int) ∧ Hid (k = K + 1 → K = 0 ∨ (i + K < n ∧ isDel (z (i + K)) = false))) (fun s => 11 - (intOf s).toNat)
    case atStart => exact ⟨1, by omega, by omega, by omega, rfl, fun h => by left; omega⟩
    case round =>
      obtain ⟨k, hk1, hk10, hkK, rfl, hkd⟩ := hrel
      by_cases hk9 : k ≤ 9
      · by_cases hkn : i + k < n
        · by_cases hkK' : k ≤ K
          · -- the first k bytes are digits
            have hck := cellM HR.out (i + k) hkn
            have hall : allDig (shift z i) k = true := by rw [allDig_lead _ k (n - i) (by omega), HK.out]; simpa using hkK'
            go_wp2_with fail
            refine (all_digits b 0 n n i k z _ _ _ rfl (by omega) (by omega) HR.out HZ.out (by omega)).mono ?_
            rintro e w' ⟨rfl, hw⟩
            obtain rfl := hw.symm
            cases hdl : isDel (z (i + k))
            · obtain ⟨d1, d2⟩ := nodel' hdl
              go_wp2_with fail
              refine ⟨⟨k + 1, by omega, by omega, by omega, by go_num, fun h => ?_⟩, by simp [intOf]; omega⟩
              right
              rw [show K = k by omega]
              exact ⟨hkn, hdl⟩
            · have hKk : Hid (k = K) := by
                show k = K
                rcases Nat.lt_or_ge k K with h | h
                · exfalso
                  have h1 := digM z n i K k HK.out h
                  have h2 := (del_low hdl)
                  omega
                · omega
              have hdig : ∀ q, q < k → 48 ≤ z (i + q) ∧ z (i + q) ≤ 57 := fun q hq => digM z n i K q HK.out (by omega)
              have HDg : Hid (∀ q, q < k → 48 ≤ z (i + q) ∧ z (i + q) ≤ 57) := hdig
              have HDl : Hid (isDel (z (i + k)) = true) := hdl
              have hd2 := del_eq hdl
              clear hdig hdl
              rcases hd2 with d1 | ⟨d1, d2⟩
              all_goals
                go_wp2_with fail
                refine (boundary_at b 0 n n (i + k + 1) z _ _ (by omega) (by omega) HR.out (by omega)).mono ?_
                rintro e w' ⟨rfl, hw⟩
                obtain rfl := hw.symm
                cases he : bnd z n (i + k + 1)
                · have HT : Hid (tail z n i wd = no) := tail_dig_no HD.out HB.out HK.out (.inr (.inr (by rw [← hKk.out]; exact he)))
                  go_wp2_with fail
                  exact bodyPost_ret (v := .tuple #[.int .i64 0, .int .i64 0, .int .u8 0, .int .i64 0, .bool false, .bool false]) (by simp [results, Try.results6, go_sem]) rfl ⟨by rw [HC.out, HT.out]; rfl, rfl⟩
                · have HT : Hid (tail z n i wd = ⟨i + k + 1, wd + (k + 1), z (i + k), num (shift z i) k, blankAll (shift z (i + k + 1)) (n - (i + k + 1)), true⟩) := tail_dig HD.out HB.out (by rw [HK.out]; exact hKk.out.symm) (by omega) HDl.out he
                  go_wp2_with fail
                  refine (decimal_value b 0 n n i k z _ _ _ rfl (by omega) (by omega) HR.out (by omega) (by omega) HDg.out).mono ?_
                  rintro e w' ⟨rfl, hw⟩
                  obtain rfl := hw.symm
                  go_wp2_with fail
                  refine (rest_blank b 0 n n (i + k + 1) z _ _ (by omega) (by omega) HR.out (by omega)).mono ?_
                  rintro e w' ⟨rfl, hw⟩
                  obtain rfl := hw.symm
                  go_wp2_with fail
                  exact bodyPost_ret (v := .tuple #[.int .i64 (i + k + 1), .int .i64 (col + wd - col + (i + k + 1) - i), .int .u8 (z (i + k)), .int .i64 (num (shift z i) k), .bool (blankAll (shift z (i + k + 1)) (n - (i + k + 1))), .bool true]) (by simp [results, Try.results6, go_sem]) rfl ⟨by rw [HC.out, HT.out, sixM, show col + wd - col + ((i : Int) + k + 1) - i = wd + (k + 1) by omega], rfl⟩
          · -- one byte more than there are digits
            have hall : allDig (shift z i) k = false := by rw [allDig_lead _ k (n - i) (by omega), HK.out]; simpa using hkK'
            have HT : Hid (tail z n i wd = no) := tail_dig_no HD.out HB.out HK.out (by
              rcases hkd.out (by omega) with h | h
              · exact .inl (.inl h)
              · exact .inr (.inl h.2))
            go_wp2_with fail
            refine (all_digits b 0 n n i k z _ _ _ rfl (by omega) (by omega) HR.out HZ.out (by omega)).mono ?_
            rintro e w' ⟨rfl, hw⟩
            obtain rfl := hw.symm
            go_wp2_with fail
            exact bodyPost_ret (v := .tuple #[.int .i64 0, .int .i64 0, .int .u8 0, .int .i64 0, .bool false, .bool false]) (by simp [results, Try.results6, go_sem]) rfl ⟨by rw [HC.out, HT.out]; rfl, rfl⟩
        · have HT : Hid (tail z n i wd = no) := tail_dig_no HD.out HB.out HK.out (by
            by_cases h : k = K + 1
            · rcases hkd.out h with h | h
              · exact .inl (.inl h)
              · exact .inr (.inl h.2)
            · exact .inl (.inr (.inr (by omega))))
          go_wp2_with fail
          exact bodyPost_ret (v := .tuple #[.int .i64 0, .int .i64 0, .int .u8 0, .int .i64 0, .bool false, .bool false]) (by simp [results, Try.results6, go_sem]) rfl ⟨by rw [HC.out, HT.out]; rfl, rfl⟩
      · have HT : Hid (tail z n i wd = no) := tail_dig_no HD.out HB.out HK.out (by
          by_cases h : k = K + 1
          · rcases hkd.out h with h | h
            · exact .inl (.inl h)
            · exact .inr (.inl h.2)
          · exact .inl (.inr (.inl (by omega))))
        go_wp2_with fail
        exact bodyPost_ret (v := .tuple #[.int .i64 0, .int .i64 0, .int .u8 0, .int .i64 0, .bool false, .bool false]) (by simp [results, Try.results6, go_sem]) rfl ⟨by rw [HC.out, HT.out]; rfl, rfl⟩

end Go.Proofs.Qxb6628227a
