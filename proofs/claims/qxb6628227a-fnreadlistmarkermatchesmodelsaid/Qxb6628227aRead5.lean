/-
  readListMarker (14) computes rlm; ZZreadListMarker (7) hands its fields out.
-/
import Derived.Test.Qxb6628227aRead4
import Derived.Deep.QuietTactic
import Derived.BigQuiet
namespace Go.Proofs.Qxb6628227a
open Go.RowKit
set_option linter.unusedVariables false

theorem del_cases {x : Int} (h : isDel x = true) : ((x != 46) = false ∨ ((x != 46) = true ∧ (x != 41) = false)) ∧ x < 48 := by
  unfold isDel at h
  unfold bne
  cases h1 : (x == 46)
  · rw [h1, Bool.false_or] at h
    exact ⟨.inr ⟨rfl, by rw [h]; rfl⟩, by rw [beq_iff_eq] at h; omega⟩
  · exact ⟨.inl rfl, by rw [beq_iff_eq] at h1; omega⟩

theorem nodel {x : Int} (h : isDel x = false) : (x != 46) = true ∧ (x != 41) = true := by
  unfold isDel at h
  rw [Bool.or_eq_false_iff] at h
  unfold bne
  exact ⟨by rw [h.1]; rfl, by rw [h.2]; rfl⟩

theorem read_any (b n : Nat) (z : Nat → Int) (col : Int) (w : World) (hn : n ≤ 1048577) (hr : Row w b 0 n z) (hz : Rng z) (c0 : 0 ≤ col) (c1 : col ≤ 1073741825) :
    Calls Try.prog 14 #[.slice (some ⟨b, 0, none⟩) n n, .int .i64 col] w fun e w' => e = .returned (ansV (rlm z n col)) ∧ Below w.heap.size w w' := by
  have hil := lead_le isInd z n
  have hwb := wid_bound z col (lead isInd z n)
  have hind : Ind b n (lead isInd z n) z col (wid z col (lead isInd z n)) := fun W hW => indent_width b 0 n n z col W (by omega) hW hz c0 c1
  unfold rlm
  generalize lead isInd z n = i at *
  generalize wid z col i = wd at *
  have w0 : 0 ≤ wd := by omega
  by_cases hdeep : 3 < wd ∨ i = n
  · rw [tail_deep hdeep]
    refine read_deep b n i z col wd w hn hr hind w0 ?_
    by_cases h3 : 3 < wd
    · exact .inl h3
    · exact .inr ⟨h3, beq_n i n (by omega)⟩
  have w3 : wd ≤ 3 := by omega
  have hi : i < n := by omega
  cases hb : isBul (z i)
  · obtain ⟨k, hk⟩ : ∃ k, lead isDig (shift z i) (n - i) = k := ⟨_, rfl⟩
    have hkl := lead_le isDig (shift z i) (n - i)
    by_cases h1 : k = 0 ∨ 9 < k ∨ i + k = n
    · rw [tail_dig_no hdeep hb hk (.inl h1)]
      refine read_dig_no b n i k z col wd w hn hr hind w0 w3 hi hb hk ?_
      by_cases k0 : k = 0
      · exact .inl k0
      · by_cases k9 : 9 < k
        · exact .inr (.inl ⟨by omega, k9⟩)
        · exact .inr (.inr (.inl ⟨by omega, by omega, by rw [beq_iff_eq]; omega⟩))
    · have hkn : i + k < n := by omega
      cases hd : isDel (z (i + k))
      · rw [tail_dig_no hdeep hb hk (.inr (.inl hd))]
        obtain ⟨d1, d2⟩ := nodel hd
        exact read_dig_no b n i k z col wd w hn hr hind w0 w3 hi hb hk (.inr (.inr (.inr ⟨by omega, by omega, hkn, d1, d2⟩)))
      · obtain ⟨hd2, hlow⟩ := del_cases hd
        cases he : bnd z n (i + k + 1)
        · rw [tail_dig_no hdeep hb hk (.inr (.inr he))]
          obtain ⟨h4, n1, n2, n3⟩ := bnd_false (by omega) he
          exact read_dig_bad b n i k z col wd w hn hr hind w0 w3 hi hb hk (by omega) (by omega) hkn hd2 hlow h4 n1 n2 n3
        · rw [tail_dig hdeep hb hk h1 hd he]
          rcases bnd_true (by omega) he with h4 | ⟨h4, h5⟩ | ⟨h4, h5⟩ | ⟨h4, h5⟩
          · exact read_dig_end b n i k z col wd w hn hr hind w0 w3 hi hb hk (by omega) (by omega) hkn hd2 hlow h4
          · exact read_dig_more b n i k z col wd w hn hr hind w0 w3 hi hb hk (by omega) (by omega) hkn hd2 hlow h4 (.inl h5)
          · exact read_dig_more b n i k z col wd w hn hr hind w0 w3 hi hb hk (by omega) (by omega) hkn hd2 hlow h4 (.inr (.inl h5))
          · exact read_dig_more b n i k z col wd w hn hr hind w0 w3 hi hb hk (by omega) (by omega) hkn hd2 hlow h4 (.inr (.inr h5))
  · cases he : bnd z n (i + 1)
    · rw [tail_bul_no hdeep hb he]
      obtain ⟨h4, n1, n2, n3⟩ := bnd_false (by omega) he
      exact read_bul_no b n i z col wd w hn hr hind w0 w3 hi hb h4 n1 n2 n3
    · rw [tail_bul hdeep hb he]
      rcases bnd_true (by omega) he with h4 | ⟨h4, h5⟩ | ⟨h4, h5⟩ | ⟨h4, h5⟩
      · exact read_bul_end b n i z col wd w hn hr hind w0 w3 hi hb h4
      · exact read_bul_more b n i z col wd w hn hr hind w0 w3 hi hb h4 (.inl h5)
      · exact read_bul_more b n i z col wd w hn hr hind w0 w3 hi hb h4 (.inr (.inl h5))
      · exact read_bul_more b n i z col wd w hn hr hind w0 w3 hi hb h4 (.inr (.inr h5))

/-- The six values, one by one. -/
def sixV (m : Ans) : Value := .tuple #[.int .i64 m.fin, .int .i64 m.fcol, .int .u8 m.ch, .int .i64 m.st, .bool m.em, .bool m.ok]

set_option maxHeartbeats 1000000 in
/-- ZZreadListMarker, over whatever slice and answer. -/
theorem zz_of (v : Value) (m : Ans) (col : Int) (w : World) (h : Calls Try.prog 14 #[v, .int .i64 col] w fun e w' => e = .returned (ansV m) ∧ Below w.heap.size w w') :
    Calls Try.prog 7 #[v, .int .i64 col] w fun e w' => e = .returned (sixV m) ∧ Below w.heap.size w w' := by
  obtain ⟨f1, f2, f3, f4, f5, f6⟩ := m
  have H : Hid (Calls Try.prog 14 #[v, .int .i64 col] w fun e w' => e = .returned (ansV ⟨f1, f2, f3, f4, f5, f6⟩) ∧ Below w.heap.size w w') := h
  clear h
  go_enter Try.func7, Try.ntmps7
  go_wp2_with fail
  refine H.out.mono ?_
  rintro e w1 ⟨rfl, hb1⟩
  unfold ansV
  go_wp2_with fail
  go_quiet (fail)
  go_wp2_with fail
  exact bodyPost_ret (v := .tuple #[.int .i64 f1, .int .i64 f2, .int .u8 f3, .int .i64 f4, .bool f5, .bool f6]) (by simp [results, Try.results7, go_sem]) rfl ⟨rfl, (hb1.alloc hb1.size _).trans ⟨rfl, rfl, rfl, Nat.le_refl _, fun _ _ => rfl⟩⟩

end Go.Proofs.Qxb6628227a
