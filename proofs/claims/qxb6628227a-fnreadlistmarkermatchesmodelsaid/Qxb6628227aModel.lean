/-
  The walk of modelListMarker (6): a deep indentation, a bullet.
-/
import Derived.Test.Qxb6628227aLeaves3
import Derived.Deep.DeepCutAuto
import Derived.Deep.CutBlock
namespace Go.Proofs.Qxb6628227a
open Go.RowKit
set_option linter.unusedVariables false

set_option maxRecDepth 100000 in
set_option maxHeartbeats 8000000 in
/-- Too deep, or nothing but indentation. -/
theorem model_deep (b n : Nat) (z : Nat → Int) (col : Int) (w : World) (hn : n ≤ 1048576) (hr : Row w b 0 n z) (hz : Rng z) (c0 : 0 ≤ col) (c1 : col ≤ 1073741825)
    (hcond0 : 3 < wid z col (lead isInd z n) ∨ (¬ 3 < wid z col (lead isInd z n) ∧ lead isInd z n = n)) :
    Calls Try.prog 6 #[.slice (some ⟨b, 0, none⟩) n n, .int .i64 col] w fun e w' => e = .returned (sixM (rlm z n col)) ∧ w' = w := by
  have HR : Hid (Row w b 0 n z) := hr
  have HZ : Hid (Rng z) := hz
  obtain ⟨i, hil⟩ : ∃ i, lead isInd z n = i := ⟨_, rfl⟩
  have HP : Hid (lead isInd z n = i) := hil
  have hin : i ≤ n := by rw [← hil]; exact lead_le _ _ _
  obtain ⟨wd, hwd⟩ : ∃ wd, wid z col i = wd := ⟨_, rfl⟩
  have HWD : Hid (wid z col i = wd) := hwd
  have w0 : 0 ≤ wd := by rw [← hwd]; have := wid_bound z col i; omega
  have w4 : wd ≤ 4 * (i : Int) := by rw [← hwd]; have := wid_bound z col i; omega
  have hcond := hcond0
  rw [hil, hwd] at hcond
  have HH : Hid _ := hcond
  have HC : Hid (rlm z n col = tail z n i wd) := by show rlm z n col = _; unfold rlm; rw [hil, hwd]
  clear hr hz hil hwd hcond hcond0
  go_enter Try.func6, Try.ntmps6
  go_upto_block 0 with fail
  go_cut [10, 11] (fun s10 s11 w' => s10 = .int .i64 (col + wd) ∧ s11 = .int .i64 (i : Int) ∧ Hid (w' = w))
  case first =>
    go_wp2_with fail
    go_loop [10, 11] (fun c p => ∃ (q : Nat) (W : Int), q ≤ i ∧ p = .int .i64 (q : Int) ∧ c = .int .i64 (col + W) ∧ 0 ≤ W ∧ W ≤ 4 * (q : Int) ∧ Hid (W = wid z col q)) (fun _ p => i - (intOf p).toNat)
    case atStart => exact ⟨0, 0, by omega, rfl, by go_num, by omega, by omega, rfl⟩
    case round =>
      obtain ⟨q, W, hq, rfl, rfl, hW0, hW1, hW⟩ := hrel
      by_cases hlt : q < i
      · have hc := cellM HR.out q (by omega)
        have hi : isInd (z q) = true := lead_all isInd z n q (by rw [HP.out]; exact hlt)
        have hqn : (q : Int) < (n : Int) := by omega
        cases h32 : (z q == 32)
        · have hne : ¬ z q = 32 := by simpa using h32
          have HWn : Hid (wid z col (q + 1) = W + (4 - (col + W) % 4)) := by
            show wid z col (q + 1) = _
            rw [wid, if_neg hne, ← hW.out]
          clear hne
          go_wp2_with fail
          refine (indent_byte (z q) _).mono ?_
          rintro e w' ⟨rfl, hw⟩
          obtain rfl := hw.symm
          go_wp2_with fail
          exact ⟨⟨q + 1, W + (4 - (col + W) % 4), by omega, by go_num, by congr 1; omega, by omega, by omega, HWn.out.symm⟩, by simp [intOf]; omega⟩
        · have heq : Hid (z q = 32) := by show z q = 32; simpa using h32
          have HWn : Hid (wid z col (q + 1) = W + 1) := by
            show wid z col (q + 1) = _
            rw [wid, if_pos heq.out, ← hW.out]
          clear heq
          go_wp2_with fail
          refine (indent_byte (z q) _).mono ?_
          rintro e w' ⟨rfl, hw⟩
          obtain rfl := hw.symm
          go_wp2_with fail
          exact ⟨⟨q + 1, W + 1, by omega, by go_num, by congr 1; omega, by omega, by omega, HWn.out.symm⟩, by simp [intOf]; omega⟩
      · have hqi : (q : Int) = (i : Int) := by omega
        have hWw : W = wd := by rw [hW.out, show q = i by omega]; exact HWD.out
        rw [hqi, hWw]
        clear hqi hWw hW hW0 hW1
        by_cases hpn : i < n
        · have hc := cellM HR.out i hpn
          have hi : isInd (z i) = false := by have := lead_stop isInd z n (by rw [HP.out]; exact hpn); rwa [HP.out] at this
          go_wp2_with fail
          refine (indent_byte (z i) _).mono ?_
          rintro e w' ⟨rfl, hw⟩
          obtain rfl := hw.symm
          go_wp2_with fail
          go_meet
          case rel => exact ⟨rfl, rfl, rfl⟩
        · go_wp2_with fail
          go_meet
          case rel => exact ⟨rfl, rfl, rfl⟩
  case rest =>
    obtain ⟨rfl, rfl, hwc⟩ := hcut
    have hwc' := hwc.out
    subst hwc'
    clear hwc HP HWD
    have hcond := HH.out
    clear HH
    have HT : Hid (tail z n i wd = no) := by rcases hcond with h | h; exact tail_deep (.inl h); exact tail_deep (.inr h.2)
    rcases hcond with h1 | ⟨h1, h2⟩
    · have h3 : 3 < col + wd - col := by omega
      go_wp2_with fail
      exact bodyPost_ret (v := .tuple #[.int .i64 0, .int .i64 0, .int .u8 0, .int .i64 0, .bool false, .bool false]) (by simp [results, Try.results6, go_sem]) rfl ⟨by rw [HC.out, HT.out]; rfl, rfl⟩
    · have h3 : ¬ 3 < col + wd - col := by omega
      have h4 := beq_n i n h2
      clear h2
      go_wp2_with fail
      exact bodyPost_ret (v := .tuple #[.int .i64 0, .int .i64 0, .int .u8 0, .int .i64 0, .bool false, .bool false]) (by simp [results, Try.results6, go_sem]) rfl ⟨by rw [HC.out, HT.out]; rfl, rfl⟩

set_option maxRecDepth 100000 in
set_option maxHeartbeats 8000000 in
/-- A bullet. -/
theorem model_bul (b n : Nat) (z : Nat → Int) (col : Int) (w : World) (hn : n ≤ 1048576) (hr : Row w b 0 n z) (hz : Rng z) (c0 : 0 ≤ col) (c1 : col ≤ 1073741825)
    (hcond0 : ¬ (3 < wid z col (lead isInd z n) ∨ lead isInd z n = n) ∧ isBul (z (lead isInd z n)) = true) :
    Calls Try.prog 6 #[.slice (some ⟨b, 0, none⟩) n n, .int .i64 col] w fun e w' => e = .returned (sixM (rlm z n col)) ∧ w' = w := by
  have HR : Hid (Row w b 0 n z) := hr
  have HZ : Hid (Rng z) := hz
  obtain ⟨i, hil⟩ : ∃ i, lead isInd z n = i := ⟨_, rfl⟩
  have HP : Hid (lead isInd z n = i) := hil
  have hin : i ≤ n := by rw [← hil]; exact lead_le _ _ _
  obtain ⟨wd, hwd⟩ : ∃ wd, wid z col i = wd := ⟨_, rfl⟩
  have HWD : Hid (wid z col i = wd) := hwd
  have w0 : 0 ≤ wd := by rw [← hwd]; have := wid_bound z col i; omega
  have w4 : wd ≤ 4 * (i : Int) := by rw [← hwd]; have := wid_bound z col i; omega
  have hcond := hcond0
  rw [hil, hwd] at hcond
  have HH : Hid _ := hcond
  have HC : Hid (rlm z n col = tail z n i wd) := by show rlm z n col = _; unfold rlm; rw [hil, hwd]
  clear hr hz hil hwd hcond hcond0
  go_enter Try.func6, Try.ntmps6
  go_upto_block 0 with fail
  go_cut [10, 11] (fun s10 s11 w' => s10 = .int .i64 (col + wd) ∧ s11 = .int .i64 (i : Int) ∧ Hid (w' = w))
  case first =>
    go_wp2_with fail
    go_loop [10, 11] (fun c p => ∃ (q : Nat) (W : Int), q ≤ i ∧ p = .int .i64 (q : Int) ∧ c = .int .i64 (col + W) ∧ 0 ≤ W ∧ W ≤ 4 * (q : Int) ∧ Hid (W = wid z col q)) (fun _ p => i - (intOf p).toNat)
    case atStart => exact ⟨0, 0, by omega, rfl, by go_num, by omega, by omega, rfl⟩
    case round =>
      obtain ⟨q, W, hq, rfl, rfl, hW0, hW1, hW⟩ := hrel
      by_cases hlt : q < i
      · have hc := cellM HR.out q (by omega)
        have hi : isInd (z q) = true := lead_all isInd z n q (by rw [HP.out]; exact hlt)
        have hqn : (q : Int) < (n : Int) := by omega
        cases h32 : (z q == 32)
        · have hne : ¬ z q = 32 := by simpa using h32
          have HWn : Hid (wid z col (q + 1) = W + (4 - (col + W) % 4)) := by
            show wid z col (q + 1) = _
            rw [wid, if_neg hne, ← hW.out]
          clear hne
          go_wp2_with fail
          refine (indent_byte (z q) _).mono ?_
          rintro e w' ⟨rfl, hw⟩
          obtain rfl := hw.symm
          go_wp2_with fail
          exact ⟨⟨q + 1, W + (4 - (col + W) % 4), by omega, by go_num, by congr 1; omega, by omega, by omega, HWn.out.symm⟩, by simp [intOf]; omega⟩
        · have heq : Hid (z q = 32) := by show z q = 32; simpa using h32
          have HWn : Hid (wid z col (q + 1) = W + 1) := by
            show wid z col (q + 1) = _
            rw [wid, if_pos heq.out, ← hW.out]
          clear heq
          go_wp2_with fail
          refine (indent_byte (z q) _).mono ?_
          rintro e w' ⟨rfl, hw⟩
          obtain rfl := hw.symm
          go_wp2_with fail
          exact ⟨⟨q + 1, W + 1, by omega, by go_num, by congr 1; omega, by omega, by omega, HWn.out.symm⟩, by simp [intOf]; omega⟩
      · have hqi : (q : Int) = (i : Int) := by omega
        have hWw : W = wd := by rw [hW.out, show q = i by omega]; exact HWD.out
        rw [hqi, hWw]
        clear hqi hWw hW hW0 hW1
        by_cases hpn : i < n
        · have hc := cellM HR.out i hpn
          have hi : isInd (z i) = false := by have := lead_stop isInd z n (by rw [HP.out]; exact hpn); rwa [HP.out] at this
          go_wp2_with fail
          refine (indent_byte (z i) _).mono ?_
          rintro e w' ⟨rfl, hw⟩
          obtain rfl := hw.symm
          go_wp2_with fail
          go_meet
          case rel => exact ⟨rfl, rfl, rfl⟩
        · go_wp2_with fail
          go_meet
          case rel => exact ⟨rfl, rfl, rfl⟩
  case rest =>
    obtain ⟨rfl, rfl, hwc⟩ := hcut
    have hwc' := hwc.out
    subst hwc'
    clear hwc HP HWD
    have hcond := HH.out
    clear HH
    obtain ⟨hd, hb⟩ := hcond
    have hin' : i < n := by omega
    have hc := cellM HR.out i hin'
    have h3 : ¬ 3 < col + wd - col := by omega
    have h4 : ((i : Int) == (n : Int)) = false := by rw [beq_eq_false_iff_ne]; omega
    have HB : Hid (isBul (z i) = true) := hb
    have HD : Hid (¬ (3 < wd ∨ i = n)) := hd
    have hb3 := bulM hb
    clear hb hd
    rcases hb3 with b1 | ⟨b1, b2⟩ | ⟨b1, b2, b3⟩
    all_goals
      go_wp2_with fail
      refine (boundary_at b 0 n n (i + 1) z _ _ (by omega) (by omega) HR.out (by omega)).mono ?_
      rintro e w' ⟨rfl, hw⟩
      obtain rfl := hw.symm
      cases he : bnd z n (i + 1)
      · have HT : Hid (tail z n i wd = no) := tail_bul_no HD.out HB.out he
        go_wp2_with fail
        exact bodyPost_ret (v := .tuple #[.int .i64 0, .int .i64 0, .int .u8 0, .int .i64 0, .bool false, .bool false]) (by simp [results, Try.results6, go_sem]) rfl ⟨by rw [HC.out, HT.out]; rfl, rfl⟩
      · have HT : Hid (tail z n i wd = _) := tail_bul HD.out HB.out he
        go_wp2_with fail
        refine (rest_blank b 0 n n (i + 1) z _ _ (by omega) (by omega) HR.out (by omega)).mono ?_
        rintro e w' ⟨rfl, hw⟩
        obtain rfl := hw.symm
        go_wp2_with fail
        exact bodyPost_ret (v := .tuple #[.int .i64 (i + 1), .int .i64 (col + wd - col + (i + 1) - i), .int .u8 (z i), .int .i64 (-1), .bool (blankAll (shift z (i + 1)) (n - (i + 1))), .bool true]) (by simp [results, Try.results6, go_sem]) rfl ⟨by rw [HC.out, HT.out, sixM, show col + wd - col + ((i : Int) + 1) - i = wd + 1 by omega], rfl⟩

end Go.Proofs.Qxb6628227a
