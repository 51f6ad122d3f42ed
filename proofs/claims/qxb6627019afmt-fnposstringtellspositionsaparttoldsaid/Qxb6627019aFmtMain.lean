/-
  The plain law on the positions' texts, and the walk of the law's own function (3).
-/
import Derived.Test.Qxb6627019aFmtReads
import Derived.Stop.Texts
import Derived.Stop.JoinedTold
import Derived.Lib.ItoaLen
namespace Go.Proofs.Qxb6627019aFmt
open Go.RowKit Go.Kit Go.Extern.Stop Go.Stop Go.Extern

/-- The text of a position. -/
def posList (p : List UInt8) (n : Int) : List UInt8 := if n = 0 then p else posText p n
def posStr (p : ByteArray) (n : Int) : ByteArray := ⟨(posList p.data.toList n).toArray⟩

theorem posStr_data (p : ByteArray) (n : Int) : (posStr p n).data.toList = posList p.data.toList n := rfl
theorem posStr_zero (p : ByteArray) : posStr p 0 = p := by
  apply ByteArray.ext
  apply Array.toList_inj.1
  rw [posStr_data, posList, if_pos rfl]

/-! The plain law. -/

theorem dec_inj : ∀ (u v : Nat), Lib.decDigits u = Lib.decDigits v → u = v := by
  intro u
  induction u using Nat.strongRecOn with
  | _ u ih =>
    intro v h
    have hl : Lib.nDigits u = Lib.nDigits v := by rw [← Lib.decDigits_length, ← Lib.decDigits_length, h]
    by_cases hu : u < 10
    · by_cases hv : v < 10
      · rw [Lib.decDigits_one hu, Lib.decDigits_one hv] at h
        simp only [List.cons.injEq, and_true] at h
        have := congrArg UInt8.toNat h
        rw [UInt8.toNat_ofNat_of_lt' (by show 48 + _ < 256; omega), UInt8.toNat_ofNat_of_lt' (by show 48 + _ < 256; omega)] at this
        omega
      · rw [Lib.nDigits_small hu, Lib.nDigits_big hv] at hl
        have := Lib.nDigits_pos (v / 10)
        omega
    · by_cases hv : v < 10
      · rw [Lib.nDigits_small hv, Lib.nDigits_big hu] at hl
        have := Lib.nDigits_pos (u / 10)
        omega
      · have hbig : ∀ x, ¬ x < 10 → Lib.decDigits x = Lib.decDigits (x / 10) ++ [UInt8.ofNat (48 + x % 10)] := fun x hx => by rw [Lib.decDigits, dif_neg hx]
        rw [hbig u hu, hbig v hv] at h
        obtain ⟨h1, h2⟩ := List.append_inj' h rfl
        have e := ih (u / 10) (by omega) (v / 10) h1
        simp only [List.cons.injEq, and_true] at h2
        have := congrArg UInt8.toNat h2
        rw [UInt8.toNat_ofNat_of_lt' (by show 48 + _ < 256; omega), UInt8.toNat_ofNat_of_lt' (by show 48 + _ < 256; omega)] at this
        omega

theorem dec_digit (u : Nat) (c : UInt8) (h : c ∈ Lib.decDigits u) : 48 ≤ c.toNat ∧ c.toNat ≤ 57 := by
  rw [Lib.decDigits_eq] at h
  obtain ⟨t, _, rfl⟩ := List.mem_map.1 h
  unfold Lib.dg
  rw [UInt8.toNat_ofNat_of_lt' (by show 48 + _ < 256; omega)]
  omega

theorem itoa_inj (a b : Int) (h : Lib.itoa a = Lib.itoa b) : a = b := by
  unfold Lib.itoa at h
  have hd : ∀ u v : Nat, ¬ (45 :: Lib.decDigits u = Lib.decDigits v) := fun u v e => by
    have := dec_digit v 45 (by rw [← e]; simp)
    simp at this
  split at h <;> split at h
  · simp only [List.cons.injEq, true_and] at h
    have := dec_inj _ _ h
    omega
  · exact absurd h (hd _ _)
  · exact absurd h.symm (hd _ _)
  · have := dec_inj _ _ h
    omega

theorem split_at {p q x y : List UInt8} (hp : colon p = false) (hq : colon q = false) (h : p ++ 58 :: x = q ++ 58 :: y) : p = q ∧ x = y := by
  induction p generalizing q with
  | nil =>
    cases q with
    | nil => simpa using h
    | cons c q =>
      simp only [List.nil_append, List.cons_append, List.cons.injEq] at h
      simp [colon, ← h.1] at hq
  | cons d p ih =>
    cases q with
    | nil =>
      simp only [List.nil_append, List.cons_append, List.cons.injEq] at h
      simp [colon, h.1] at hp
    | cons c q =>
      simp only [List.cons_append, List.cons.injEq] at h
      have hp' : colon p = false := by simp [colon] at hp ⊢; exact hp.2
      have hq' : colon q = false := by simp [colon] at hq ⊢; exact hq.2
      obtain ⟨e1, e2⟩ := ih hp' hq' h.2
      exact ⟨by rw [h.1, e1], e2⟩

theorem posList_inj {p q : List UInt8} {a b : Int} (hp : colon p = false) (hq : colon q = false) (h : posList p a = posList q b) : p = q ∧ a = b := by
  have hno : ∀ {p q : List UInt8} {x : List UInt8}, colon p = false → ¬ p = q ++ 58 :: x := fun {p q x} h e => by
    rw [e] at h
    simp [colon] at h
  unfold posList posText at h
  split at h <;> split at h
  · exact ⟨h, by omega⟩
  · exact absurd h (hno hp)
  · exact absurd h.symm (hno hq)
  · obtain ⟨e1, e2⟩ := split_at hp hq h
    exact ⟨e1, itoa_inj a b e2⟩

theorem toList_data (p : ByteArray) : p.toList = p.data.toList := ByteArray.toList_eq p

theorem same_iff (p q : ByteArray) (a b : Int) (hp : colon p.data.toList = false) (hq : colon q.data.toList = false) :
    ((posStr p a).toList == (posStr q b).toList) = ((p.toList == q.toList) && (a == b)) := by
  rw [Bool.eq_iff_iff, Bool.and_eq_true, beq_iff_eq, beq_iff_eq, beq_iff_eq, toList_data, toList_data, toList_data, toList_data, posStr_data, posStr_data]
  constructor
  · exact posList_inj hp hq
  · rintro ⟨e1, e2⟩; rw [e1, e2]

theorem posStr_size (p : ByteArray) (n : Int) (hp : p.size ≤ 524288) (h0 : -9223372036854775808 ≤ n) (h1 : n ≤ 9223372036854775807) : (posStr p n).size ≤ 600000 := by
  show (posList p.data.toList n).toArray.size ≤ _
  have hl : p.data.toList.length = p.size := by simp
  have := Lib.itoa_length_le n h0 h1
  unfold posList posText
  split
  · simp; omega
  · simp; omega

/-! The walks. -/

/-- Pos.String, fmt's text told. -/
theorem pos_any (F : Interp) (p : ByteArray) (n : Int) (w : World) (hF : F.told.answers w.tape) (hp : p.size ≤ 524288) (hn : (Lit.int .i64 n).wf = true) :
    Calls Tryf.prog 6 #[.agg #[.string p, .int .i64 n]] w fun e w' => e = .returned (.string (posStr p n)) ∧ Below w.heap.size w w' := by
  have hl : p.data.toList.length = p.size := by simp
  by_cases h : n = 0
  · subst h
    rw [posStr_zero]
    exact pos_zero p w
  · refine (pos_line F.told p n w hF (by simpa using h)).mono fun e w' ⟨he, hb⟩ => ⟨?_, hb⟩
    have hli := FmtText.itoa_length_le hn
    have ht := told_string F (pos_text p.data.toList n (by omega) hn) (by simp [posText]; omega)
    rw [he]
    congr 2
    apply ByteArray.ext
    apply Array.toList_inj.1
    rw [textOf_list, ht, posStr_data, posList, if_neg h]

/-- zzReadsBack at the text of the very position. -/
theorem reads_any (p : ByteArray) (n : Int) (w : World) (hp : p.size ≤ 524288) (h0 : -9223372036854775808 ≤ n) (h1 : n ≤ 9223372036854775807) (hc : colon p.data.toList = false) :
    Calls Tryf.prog 7 #[.string (posStr p n), .string p, .int .i64 n] w fun e w' => e = .returned (.bool true) ∧ Below w.heap.size w w' := by
  by_cases h : n = 0
  · subst h
    rw [posStr_zero]
    exact reads_zero p w (by unfold maxLen; omega) hc
  · have := posStr_size p n hp h0 h1
    exact reads_line (posStr p n) p n w (by unfold maxLen; omega) (by simpa using h) h0 h1 hc (by rw [posStr_data, posList, if_neg h]; rfl)

set_option maxHeartbeats 1000000 in
theorem law_any (F : Interp) (p q : ByteArray) (a b : Int) (w : World) (hF : F.told.answers w.tape) (hp : p.size ≤ maxLen) (hq : q.size ≤ maxLen) (ha : (Lit.int .i64 a).wf = true) (hb : (Lit.int .i64 b).wf = true) :
    Calls Tryf.prog 3 #[.string p, .int .i64 a, .string q, .int .i64 b] w fun e w' => e = .returned (.bool true) ∧ Below w.heap.size w w' := by
  have hp1 := hp
  have hq1 := hq
  unfold maxLen at hp1 hq1
  obtain ⟨a0, a1⟩ := FmtText.int_bounds ha
  replace a0 : -9223372036854775808 ≤ a := a0
  replace a1 : a ≤ 9223372036854775807 := a1
  go_enter Tryf.func3, Tryf.ntmps3
  go_wp2_with fail
  refine (bytes_any p q a b _ hp hq).mono ?_
  rintro e w' ⟨⟨r, rfl⟩, rfl⟩
  cases r
  · go_wp2_with fail
    go_ret
    exact ⟨rfl, Below.refl _ _⟩
  by_cases hsp : 524288 < p.size
  · go_wp2_with fail
    go_ret
    exact ⟨rfl, Below.refl _ _⟩
  by_cases hsq : 524288 < q.size
  · go_wp2_with fail
    go_ret
    exact ⟨rfl, Below.refl _ _⟩
  go_wp2_with fail
  refine (hasColon_any p _ hp).mono ?_
  rintro e w' ⟨rfl, rfl⟩
  cases hcp : colon p.data.toList
  case true =>
    go_wp2_with fail
    go_ret
    exact ⟨rfl, Below.refl _ _⟩
  have HCP : Hid (colon p.data.toList = false) := hcp
  clear hcp
  go_wp2_with fail
  refine (hasColon_any q _ hq).mono ?_
  rintro e w' ⟨rfl, rfl⟩
  cases hcq : colon q.data.toList
  case true =>
    go_wp2_with fail
    go_ret
    exact ⟨rfl, Below.refl _ _⟩
  have hsame := same_iff p q a b HCP.out hcq
  clear hcq
  go_wp2_with fail
  refine (pos_any F p a _ hF (by omega) ha).mono ?_
  rintro e w1 ⟨rfl, hb1⟩
  go_wp2_with fail
  refine (pos_any F q b _ (by rw [hb1.tape]; exact hF) (by omega) hb).mono ?_
  rintro e w2 ⟨rfl, hb2⟩
  cases h1 : (p.toList == q.toList)
  all_goals cases h2 : (a == b)
  all_goals
    rw [h1, h2] at hsame
    simp only [Bool.and_true, Bool.and_false] at hsame
    go_wp2_with fail
    refine (reads_any p a _ (by omega) a0 a1 HCP.out).mono ?_
    rintro e w3 ⟨rfl, hb3⟩
    go_wp2_with fail
    go_ret
    exact ⟨rfl, hb1.trans ((hb2.mono hb1.size).trans (hb3.mono (Nat.le_trans hb1.size hb2.size)))⟩

end Go.Proofs.Qxb6627019aFmt
