/-
  Plain: a space put ahead of a line. No Go in sight.
-/
import Derived.Test.Qxb6628227aPlain
namespace Go.Proofs.Qxb6628227a

/-- The line with a space ahead. -/
def spaced (z : Nat → Int) : Nat → Int := fun j => if j = 0 then 32 else z (j - 1)

theorem spaced_zero (z : Nat → Int) : spaced z 0 = 32 := rfl
theorem spaced_succ (z : Nat → Int) (j : Nat) : spaced z (j + 1) = z j := by unfold spaced; rw [if_neg (by omega)]; rfl
theorem shift_spaced (z : Nat → Int) (a : Nat) : shift (spaced z) (a + 1) = shift z a := by
  funext j
  unfold shift
  rw [show a + 1 + j = a + j + 1 by omega, spaced_succ]

theorem lead_spaced (z : Nat → Int) (n : Nat) : lead isInd (spaced z) (n + 1) = lead isInd z n + 1 := by
  have hl := lead_le isInd z n
  refine lead_eq isInd (spaced z) (n + 1) _ (by omega) ?_ ?_
  · intro j hj
    rcases j with _ | j
    · rfl
    · rw [spaced_succ]; exact lead_all isInd z n j (by omega)
  · by_cases e : lead isInd z n = n
    · left; omega
    · right; rw [spaced_succ]; exact lead_stop isInd z n (by omega)

theorem wid_spaced (z : Nat → Int) (col : Int) : ∀ k, wid (spaced z) col (k + 1) = wid z (col + 1) k + 1
  | 0 => by simp [wid, spaced_zero]
  | k + 1 => by
    rw [wid, spaced_succ, wid_spaced z col k, wid]
    split
    · omega
    · rw [show col + (wid z (col + 1) k + 1) = col + 1 + wid z (col + 1) k by omega]; omega

theorem bnd_spaced (z : Nat → Int) (n i : Nat) : bnd (spaced z) (n + 1) (i + 1) = bnd z n i := by
  unfold bnd
  rw [spaced_succ]
  congr 1
  by_cases h : i = n
  · simp [h]
  · simp [h]

/-- One byte and one column further. -/
def bump (m : Ans) : Ans := if m.ok = true then ⟨m.fin + 1, m.fcol + 1, m.ch, m.st, m.em, true⟩ else no

theorem bump_no : bump no = no := rfl

theorem tail_bump (z : Nat → Int) (n i : Nat) (wd : Int) (hw : wd ≤ 2) (hi : i ≤ n) : tail (spaced z) (n + 1) (i + 1) (wd + 1) = bump (tail z n i wd) := by
  by_cases hd : i = n
  · rw [tail_deep (.inr (by omega)), tail_deep (.inr hd)]; rfl
  have h1 : ¬ (3 < wd ∨ i = n) := by omega
  have h2 : ¬ (3 < wd + 1 ∨ i + 1 = n + 1) := by omega
  cases hb : isBul (z i)
  · obtain ⟨k, hk⟩ : ∃ k, lead isDig (shift z i) (n - i) = k := ⟨_, rfl⟩
    have hk' : lead isDig (shift (spaced z) (i + 1)) (n + 1 - (i + 1)) = k := by rw [shift_spaced, show n + 1 - (i + 1) = n - i by omega]; exact hk
    have hb' : isBul (spaced z (i + 1)) = false := by rw [spaced_succ]; exact hb
    have ez : spaced z (i + 1 + k) = z (i + k) := by rw [show i + 1 + k = i + k + 1 by omega, spaced_succ]
    have eb : bnd (spaced z) (n + 1) (i + 1 + k + 1) = bnd z n (i + k + 1) := by rw [show i + 1 + k + 1 = i + k + 1 + 1 by omega, bnd_spaced]
    by_cases hn : k = 0 ∨ 9 < k ∨ i + k = n
    · rw [tail_dig_no h1 hb hk (.inl hn), tail_dig_no h2 hb' hk' (.inl (by omega))]; rfl
    cases hdl : isDel (z (i + k))
    · rw [tail_dig_no h1 hb hk (.inr (.inl hdl)), tail_dig_no h2 hb' hk' (.inr (.inl (by rw [ez]; exact hdl)))]; rfl
    cases he : bnd z n (i + k + 1)
    · rw [tail_dig_no h1 hb hk (.inr (.inr he)), tail_dig_no h2 hb' hk' (.inr (.inr (by rw [eb]; exact he)))]; rfl
    rw [tail_dig h1 hb hk hn hdl he, tail_dig h2 hb' hk' (by omega) (by rw [ez]; exact hdl) (by rw [eb]; exact he)]
    unfold bump
    rw [if_pos rfl, ez, shift_spaced, show i + 1 + k + 1 = i + k + 1 + 1 by omega, shift_spaced, show n + 1 - (i + k + 1 + 1) = n - (i + k + 1) by omega]
    congr 1
    · show ((i + 1 : Nat) : Int) + k + 1 = (i : Int) + k + 1 + 1; omega
    · show wd + 1 + ((k : Int) + 1) = wd + ((k : Int) + 1) + 1; omega
  · have hb' : isBul (spaced z (i + 1)) = true := by rw [spaced_succ]; exact hb
    have eb : bnd (spaced z) (n + 1) (i + 1 + 1) = bnd z n (i + 1) := bnd_spaced z n (i + 1)
    cases he : bnd z n (i + 1)
    · rw [tail_bul_no h1 hb he, tail_bul_no h2 hb' (by rw [eb]; exact he)]; rfl
    rw [tail_bul h1 hb he, tail_bul h2 hb' (by rw [eb]; exact he)]
    unfold bump
    rw [if_pos rfl, spaced_succ, shift_spaced, show n + 1 - (i + 1 + 1) = n - (i + 1) by omega]
    congr 1

/-- What an answer can be. -/
theorem tail_shape (z : Nat → Int) (n i : Nat) (wd : Int) (w0 : 0 ≤ wd) (hi : i ≤ n) :
    tail z n i wd = no ∨ ((tail z n i wd).ok = true ∧ (tail z n i wd).fcol - ((tail z n i wd).fin - i) = wd ∧ wd ≤ 3 ∧ 0 ≤ (tail z n i wd).fin ∧ (tail z n i wd).fin ≤ n ∧ 0 ≤ (tail z n i wd).fcol ∧ (tail z n i wd).fcol ≤ n + 4) := by
  by_cases h1 : 3 < wd ∨ i = n
  · exact .inl (tail_deep h1)
  cases hb : isBul (z i)
  · obtain ⟨k, hk⟩ : ∃ k, lead isDig (shift z i) (n - i) = k := ⟨_, rfl⟩
    have hkl := lead_le isDig (shift z i) (n - i)
    by_cases hn : k = 0 ∨ 9 < k ∨ i + k = n
    · exact .inl (tail_dig_no h1 hb hk (.inl hn))
    cases hdl : isDel (z (i + k))
    · exact .inl (tail_dig_no h1 hb hk (.inr (.inl hdl)))
    cases he : bnd z n (i + k + 1)
    · exact .inl (tail_dig_no h1 hb hk (.inr (.inr he)))
    right
    rw [tail_dig h1 hb hk hn hdl he]
    exact ⟨rfl, by show wd + (k + 1) - ((i : Int) + k + 1 - i) = wd; omega, by omega, by show 0 ≤ (i : Int) + k + 1; omega, by show (i : Int) + k + 1 ≤ n; omega, by show 0 ≤ wd + ((k : Int) + 1); omega, by show wd + ((k : Int) + 1) ≤ n + 4; omega⟩
  · cases he : bnd z n (i + 1)
    · exact .inl (tail_bul_no h1 hb he)
    right
    rw [tail_bul h1 hb he]
    exact ⟨rfl, by show wd + 1 - ((i : Int) + 1 - i) = wd; omega, by omega, by show 0 ≤ (i : Int) + 1; omega, by show (i : Int) + 1 ≤ n; omega, by show 0 ≤ wd + 1; omega, by show wd + 1 ≤ (n : Int) + 4; omega⟩

/-- THE LAW: three cases. -/
theorem space_law (z : Nat → Int) (n : Nat) (col : Int) :
    (rlm z n (col + 1) = no ∧ rlm (spaced z) (n + 1) col = no) ∨
    (∃ a1 a2 a3 a4 : Int, ∃ a5 : Bool, rlm z n (col + 1) = ⟨a1, a2, a3, a4, a5, true⟩ ∧ 0 ≤ a1 ∧ a1 ≤ n ∧ 0 ≤ a2 ∧ a2 ≤ n + 4 ∧
      ((a2 - (a1 - (lead isInd z n : Nat)) ≤ 2 ∧ rlm (spaced z) (n + 1) col = ⟨a1 + 1, a2 + 1, a3, a4, a5, true⟩) ∨
       (2 < a2 - (a1 - (lead isInd z n : Nat)) ∧ rlm (spaced z) (n + 1) col = no))) := by
  have hil := lead_le isInd z n
  have hwb := wid_bound z (col + 1) (lead isInd z n)
  have hB : rlm (spaced z) (n + 1) col = tail (spaced z) (n + 1) (lead isInd z n + 1) (wid z (col + 1) (lead isInd z n) + 1) := by
    unfold rlm; rw [lead_spaced, wid_spaced]
  have hA : rlm z n (col + 1) = tail z n (lead isInd z n) (wid z (col + 1) (lead isInd z n)) := rfl
  rw [hA, hB]
  generalize lead isInd z n = i at *
  generalize wid z (col + 1) i = wd at *
  rcases tail_shape z n i wd (by omega) hil with h | ⟨h1, h2, h3, h4, h5, h6, h7⟩
  · left
    refine ⟨h, ?_⟩
    by_cases hw : wd ≤ 2
    · rw [tail_bump z n i wd hw hil, h]; rfl
    · exact tail_deep (.inl (by omega))
  · right
    generalize ht : tail z n i wd = A at *
    obtain ⟨a1, a2, a3, a4, a5, a6⟩ := A
    simp only at h1 h2 h4 h5 h6 h7
    subst h1
    refine ⟨a1, a2, a3, a4, a5, rfl, h4, h5, h6, h7, ?_⟩
    by_cases hw : wd ≤ 2
    · left
      refine ⟨by omega, ?_⟩
      rw [tail_bump z n i wd hw hil, ht]; rfl
    · right
      exact ⟨by omega, tail_deep (.inl (by omega))⟩

theorem first_lead (z : Nat → Int) (n : Nat) (hn : 1 ≤ n) (h : isInd (z 0) = false) : lead isInd z n = 0 :=
  lead_eq isInd z n 0 (by omega) (fun j hj => by omega) (.inr h)

/-- A bullet at the very start. -/
theorem at_start_bul (z : Nat → Int) (n : Nat) (col : Int) (hn : 1 ≤ n) (hb : isBul (z 0) = true) (he : bnd z n 1 = true) :
    lead isInd z n = 0 ∧ rlm z n (col + 1) = ⟨1, 1, z 0, -1, blankAll (shift z 1) (n - 1), true⟩ ∧ rlm (spaced z) (n + 1) col = ⟨2, 2, z 0, -1, blankAll (shift z 1) (n - 1), true⟩ := by
  have hi : isInd (z 0) = false := by
    unfold isBul at hb
    unfold isInd
    rw [Bool.or_eq_true, Bool.or_eq_true, beq_iff_eq, beq_iff_eq, beq_iff_eq] at hb
    rw [Bool.or_eq_false_iff, beq_eq_false_iff_ne, beq_eq_false_iff_ne]
    omega
  have hl := first_lead z n hn hi
  have hA : rlm z n (col + 1) = ⟨1, 1, z 0, -1, blankAll (shift z 1) (n - 1), true⟩ := by
    unfold rlm
    rw [hl]
    exact tail_bul (by show ¬ (3 < (0 : Int) ∨ 0 = n); omega) hb he
  refine ⟨hl, hA, ?_⟩
  have hB : rlm (spaced z) (n + 1) col = bump (rlm z n (col + 1)) := by
    unfold rlm
    rw [lead_spaced, wid_spaced, hl]
    exact tail_bump z n 0 (wid z (col + 1) 0) (by show (0 : Int) ≤ 2; omega) (by omega)
  rw [hB, hA]; rfl

/-- One digit and a delimiter at the very start. -/
theorem at_start_dig (z : Nat → Int) (n : Nat) (col : Int) (hn : 2 ≤ n) (h0 : 48 ≤ z 0) (h9 : z 0 ≤ 57) (hd : isDel (z 1) = true) (he : bnd z n 2 = true) :
    lead isInd z n = 0 ∧ rlm z n (col + 1) = ⟨2, 2, z 1, z 0 - 48, blankAll (shift z 2) (n - 2), true⟩ ∧ rlm (spaced z) (n + 1) col = ⟨3, 3, z 1, z 0 - 48, blankAll (shift z 2) (n - 2), true⟩ := by
  have hi : isInd (z 0) = false := by
    unfold isInd
    rw [Bool.or_eq_false_iff, beq_eq_false_iff_ne, beq_eq_false_iff_ne]
    omega
  have hb : isBul (z 0) = false := by
    unfold isBul
    rw [Bool.or_eq_false_iff, Bool.or_eq_false_iff, beq_eq_false_iff_ne, beq_eq_false_iff_ne, beq_eq_false_iff_ne]
    omega
  have hl := first_lead z n (by omega) hi
  have hk : lead isDig (shift z 0) (n - 0) = 1 := by
    refine lead_eq isDig (shift z 0) (n - 0) 1 (by omega) (fun j hj => ?_) (.inr ?_)
    · obtain rfl : j = 0 := by omega
      show isDig (z (0 + 0)) = true
      unfold isDig
      simp [h0, h9]
    · show isDig (z (0 + 1)) = false
      unfold isDel at hd
      rw [Bool.or_eq_true, beq_iff_eq, beq_iff_eq] at hd
      unfold isDig
      rw [Bool.and_eq_false_iff, decide_eq_false_iff_not, decide_eq_false_iff_not]
      left
      show ¬ 48 ≤ z 1
      omega
  have hA : rlm z n (col + 1) = ⟨2, 2, z 1, z 0 - 48, blankAll (shift z 2) (n - 2), true⟩ := by
    unfold rlm
    rw [hl]
    have := tail_dig (z := z) (n := n) (i := 0) (k := 1) (wd := wid z (col + 1) 0) (by show ¬ (3 < (0 : Int) ∨ 0 = n); omega) hb hk (by omega) hd he
    rw [this]
    have e : num (shift z 0) 1 = z 0 - 48 := by
      show 10 * 0 + (z (0 + 0) - 48) = _
      simp
    rw [e]
    rfl
  refine ⟨hl, hA, ?_⟩
  have hB : rlm (spaced z) (n + 1) col = bump (rlm z n (col + 1)) := by
    unfold rlm
    rw [lead_spaced, wid_spaced, hl]
    exact tail_bump z n 0 (wid z (col + 1) 0) (by show (0 : Int) ≤ 2; omega) (by omega)
  rw [hB, hA]; rfl

end Go.Proofs.Qxb6628227a
