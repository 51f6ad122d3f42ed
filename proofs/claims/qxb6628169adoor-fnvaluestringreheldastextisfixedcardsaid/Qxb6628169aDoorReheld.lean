/-
  The walk of FnValueStringReheldAsTextIsFixed (4).
-/
import Derived.Test.Qxb6628169aDoorParse
namespace Go.Proofs.Qxb6628169aDoor
open Go.RowKit
set_option linter.unusedVariables false

set_option maxHeartbeats 2000000 in
/-- typ beyond Numeric, or a text too long, or a value that is not laid out as its fields document: true at once. -/
theorem reheld_out (t i : Int) (s : ByteArray) (w : World) (ht0 : 0 ≤ t) (ht1 : t ≤ 255) (hs : s.size ≤ maxLen)
    (h : 6 < t ∨ 1048576 < s.size) :
    Calls Tryd.prog 4 #[.int .u8 t, .int .i64 i, .string s] w fun e w' => e = .returned (.bool true) ∧ Below w.heap.size w w' := by
  have hs1 := hs
  unfold maxLen at hs1
  rcases h with h | h
  · go_enter Tryd.func4, Tryd.ntmps4
    go_wp2_with fail
    refine (bytes_any t i s _ hs).mono ?_
    rintro e w' ⟨⟨r, rfl⟩, rfl⟩
    cases r
    · go_wp2_with fail
      go_ret
      exact ⟨rfl, Below.refl _ _⟩
    · by_cases hz : 1048576 < s.size
      all_goals
        go_wp2_with fail
        go_ret
        exact ⟨rfl, Below.refl _ _⟩
  · go_enter Tryd.func4, Tryd.ntmps4
    go_wp2_with fail
    refine (bytes_any t i s _ hs).mono ?_
    rintro e w' ⟨⟨r, rfl⟩, rfl⟩
    cases r
    all_goals
      go_wp2_with fail
      go_ret
      exact ⟨rfl, Below.refl _ _⟩

theorem ne_empty (s : ByteArray) (h : s ≠ ⟨#[]⟩) : s.toList.isEmpty = false := by
  rw [ByteArray.toList_eq]
  cases hl : s.data.toList with
  | nil =>
    exfalso
    apply h
    apply ByteArray.ext
    apply Array.toList_inj.1
    rw [hl]
  | cons a l => rfl

set_option maxHeartbeats 2000000 in
/-- A text kind. -/
theorem reheld_text (t i : Int) (s : ByteArray) (w : World) (ht0 : 0 ≤ t) (ht6 : t ≤ 6) (t1 : (t == 1) = false) (t3 : (t == 3) = false) (hs : s.size ≤ 1048576) :
    Calls Tryd.prog 4 #[.int .u8 t, .int .i64 i, .string s] w fun e w' => e = .returned (.bool true) ∧ Below w.heap.size w w' := by
  have t1' : (t != 1) = true := by rw [bne, t1]; rfl
  have t3' : (t != 3) = true := by rw [bne, t3]; rfl
  by_cases hi : i = 0
  · subst hi
    go_enter Tryd.func4, Tryd.ntmps4
    go_wp2_with fail
    refine (bytes_any t 0 s _ (by unfold maxLen; omega)).mono ?_
    rintro e w' ⟨⟨r, rfl⟩, rfl⟩
    cases r
    · go_wp2_with fail
      go_ret
      exact ⟨rfl, Below.refl _ _⟩
    go_wp2_with fail
    refine (new_any t 0 s _).mono ?_
    rintro e w1 ⟨rfl, hb1⟩
    go_wp2_with fail
    refine (string_text t 0 s _ t1 t3).mono ?_
    rintro e w2 ⟨rfl, hb2⟩
    have c2 := hb1.trans (hb2.mono hb1.size)
    go_wp2_with fail
    refine (new_any 2 0 s _).mono ?_
    rintro e w3 ⟨rfl, hb3⟩
    have c3 := c2.trans (hb3.mono c2.size)
    go_wp2_with fail
    refine (string_text 2 0 s _ rfl rfl).mono ?_
    rintro e w4 ⟨rfl, hb4⟩
    have c4 := c3.trans (hb4.mono c3.size)
    go_wp2_with fail
    go_ret
    exact ⟨rfl, c4⟩
  · have hi' : (i != 0) = true := by rw [bne_iff_ne]; exact hi
    have H : Hid (¬ i = 0) := hi
    clear hi
    go_enter Tryd.func4, Tryd.ntmps4
    go_wp2_with fail
    refine (bytes_any t i s _ (by unfold maxLen; omega)).mono ?_
    rintro e w' ⟨⟨r, rfl⟩, rfl⟩
    cases r
    all_goals
      go_wp2_with fail
      go_ret
      exact ⟨rfl, Below.refl _ _⟩

set_option maxHeartbeats 2000000 in
/-- An Integer or a Boolean that holds a text: true at once. -/
theorem reheld_held (t i : Int) (s : ByteArray) (w : World) (ht : t = 1 ∨ t = 3) (hs : s.size ≤ 1048576) (hne : s.toList.isEmpty = false) :
    Calls Tryd.prog 4 #[.int .u8 t, .int .i64 i, .string s] w fun e w' => e = .returned (.bool true) ∧ Below w.heap.size w w' := by
  rcases ht with rfl | rfl
  all_goals
    go_enter Tryd.func4, Tryd.ntmps4
    go_wp2_with fail
    refine (bytes_any _ i s _ (by unfold maxLen; omega)).mono ?_
    rintro e w' ⟨⟨r, rfl⟩, rfl⟩
    cases r
    all_goals
      go_wp2_with fail
      go_ret
      exact ⟨rfl, Below.refl _ _⟩

set_option maxHeartbeats 2000000 in
/-- An Integer. -/
theorem reheld_int (i : Int) (w : World) (h0 : -9223372036854775808 ≤ i) (h1 : i ≤ 9223372036854775807) (htab : Lib.TabIs Tryd.prog w powName .u64 Lib.pow10Tab) :
    Calls Tryd.prog 4 #[.int .u8 1, .int .i64 i, .string ⟨#[]⟩] w fun e w' => e = .returned (.bool true) ∧ Below w.heap.size w w' := by
  have HT : Hid (Lib.TabBelow Tryd.prog w.heap.size w powName .u64 Lib.pow10Tab) := Lib.tabBelow_of_tabIs htab
  clear htab
  go_enter Tryd.func4, Tryd.ntmps4
  go_wp2_with fail
  refine (bytes_any 1 i ⟨#[]⟩ _ (by decide)).mono ?_
  rintro e w' ⟨⟨r, rfl⟩, rfl⟩
  cases r
  · go_wp2_with fail
    go_ret
    exact ⟨rfl, Below.refl _ _⟩
  go_wp2_with fail
  refine (new_any 1 i _ _).mono ?_
  rintro e w1 ⟨rfl, hb1⟩
  go_wp2_with fail
  refine (string_int i _ _ h0 h1 (HT.out _ hb1)).mono ?_
  rintro e w2 ⟨rfl, hb2⟩
  have c2 := hb1.trans (hb2.mono hb1.size)
  go_wp2_with fail
  refine (new_any 2 0 (numStr i) _).mono ?_
  rintro e w3 ⟨rfl, hb3⟩
  have c3 := c2.trans (hb3.mono c2.size)
  go_wp2_with fail
  refine (string_text 2 0 (numStr i) _ rfl rfl).mono ?_
  rintro e w4 ⟨rfl, hb4⟩
  have c4 := c3.trans (hb4.mono c3.size)
  go_wp2_with fail
  refine (parse_any i _ h0 h1).mono ?_
  rintro e w5 ⟨rfl, rfl⟩
  go_wp2_with fail
  go_ret
  exact ⟨rfl, c4⟩

set_option maxHeartbeats 2000000 in
/-- A Boolean that is neither 0 nor 1: true at once. -/
theorem reheld_nobool (i : Int) (w : World) (h0 : (i != 0) = true) (h1 : (i != 1) = true) :
    Calls Tryd.prog 4 #[.int .u8 3, .int .i64 i, .string ⟨#[]⟩] w fun e w' => e = .returned (.bool true) ∧ Below w.heap.size w w' := by
  go_enter Tryd.func4, Tryd.ntmps4
  go_wp2_with fail
  refine (bytes_any 3 i ⟨#[]⟩ _ (by decide)).mono ?_
  rintro e w' ⟨⟨r, rfl⟩, rfl⟩
  cases r
  all_goals
    go_wp2_with fail
    go_ret
    exact ⟨rfl, Below.refl _ _⟩

set_option maxHeartbeats 2000000 in
/-- false. -/
theorem reheld_false (w : World) :
    Calls Tryd.prog 4 #[.int .u8 3, .int .i64 0, .string ⟨#[]⟩] w fun e w' => e = .returned (.bool true) ∧ Below w.heap.size w w' := by
  go_enter Tryd.func4, Tryd.ntmps4
  go_wp2_with fail
  refine (bytes_any 3 0 ⟨#[]⟩ _ (by decide)).mono ?_
  rintro e w' ⟨⟨r, rfl⟩, rfl⟩
  cases r
  · go_wp2_with fail
    go_ret
    exact ⟨rfl, Below.refl _ _⟩
  go_wp2_with fail
  refine (new_any 3 0 _ _).mono ?_
  rintro e w1 ⟨rfl, hb1⟩
  go_wp2_with fail
  refine (string_false _ _).mono ?_
  rintro e w2 ⟨rfl, hb2⟩
  have c2 := hb1.trans (hb2.mono hb1.size)
  go_wp2_with fail
  refine (new_any 2 0 ⟨#[102]⟩ _).mono ?_
  rintro e w3 ⟨rfl, hb3⟩
  have c3 := c2.trans (hb3.mono c2.size)
  go_wp2_with fail
  refine (string_text 2 0 ⟨#[102]⟩ _ rfl rfl).mono ?_
  rintro e w4 ⟨rfl, hb4⟩
  have c4 := c3.trans (hb4.mono c3.size)
  go_wp2_with fail
  refine (new_any 3 1 _ _).mono ?_
  rintro e w5 ⟨rfl, hb5⟩
  have c5 := c4.trans (hb5.mono c4.size)
  go_wp2_with fail
  refine (string_true _ _).mono ?_
  rintro e w6 ⟨rfl, hb6⟩
  have c6 := c5.trans (hb6.mono c5.size)
  go_wp2_with fail
  go_ret
  exact ⟨rfl, c6⟩

set_option maxHeartbeats 2000000 in
/-- true. -/
theorem reheld_true (w : World) :
    Calls Tryd.prog 4 #[.int .u8 3, .int .i64 1, .string ⟨#[]⟩] w fun e w' => e = .returned (.bool true) ∧ Below w.heap.size w w' := by
  go_enter Tryd.func4, Tryd.ntmps4
  go_wp2_with fail
  refine (bytes_any 3 1 ⟨#[]⟩ _ (by decide)).mono ?_
  rintro e w' ⟨⟨r, rfl⟩, rfl⟩
  cases r
  · go_wp2_with fail
    go_ret
    exact ⟨rfl, Below.refl _ _⟩
  go_wp2_with fail
  refine (new_any 3 1 _ _).mono ?_
  rintro e w1 ⟨rfl, hb1⟩
  go_wp2_with fail
  refine (string_true _ _).mono ?_
  rintro e w2 ⟨rfl, hb2⟩
  have c2 := hb1.trans (hb2.mono hb1.size)
  go_wp2_with fail
  refine (new_any 2 0 ⟨#[116]⟩ _).mono ?_
  rintro e w3 ⟨rfl, hb3⟩
  have c3 := c2.trans (hb3.mono c2.size)
  go_wp2_with fail
  refine (string_text 2 0 ⟨#[116]⟩ _ rfl rfl).mono ?_
  rintro e w4 ⟨rfl, hb4⟩
  have c4 := c3.trans (hb4.mono c3.size)
  go_wp2_with fail
  refine (new_any 3 0 _ _).mono ?_
  rintro e w5 ⟨rfl, hb5⟩
  have c5 := c4.trans (hb5.mono c4.size)
  go_wp2_with fail
  refine (string_false _ _).mono ?_
  rintro e w6 ⟨rfl, hb6⟩
  have c6 := c5.trans (hb6.mono c5.size)
  go_wp2_with fail
  go_ret
  exact ⟨rfl, c6⟩

/-- Every input. -/
theorem reheld_any (t i : Int) (s : ByteArray) (w : World) (t0 : 0 ≤ t) (t255 : t ≤ 255) (h0 : -9223372036854775808 ≤ i) (h1 : i ≤ 9223372036854775807) (hs : s.size ≤ maxLen) (htab : Lib.TabIs Tryd.prog w powName .u64 Lib.pow10Tab) :
    Calls Tryd.prog 4 #[.int .u8 t, .int .i64 i, .string s] w fun e w' => e = .returned (.bool true) ∧ Below w.heap.size w w' := by
  by_cases hout : 6 < t ∨ 1048576 < s.size
  · exact reheld_out t i s w t0 t255 hs hout
  have ht6 : t ≤ 6 := by omega
  have hs20 : s.size ≤ 1048576 := by omega
  by_cases h13 : t = 1 ∨ t = 3
  · by_cases hne : s = ⟨#[]⟩
    · subst hne
      rcases h13 with rfl | rfl
      · exact reheld_int i w h0 h1 htab
      · by_cases i0 : i = 0
        · subst i0; exact reheld_false w
        · by_cases i1 : i = 1
          · subst i1; exact reheld_true w
          · exact reheld_nobool i w (bne_iff_ne.2 i0) (bne_iff_ne.2 i1)
    · exact reheld_held t i s w h13 hs20 (ne_empty s hne)
  · exact reheld_text t i s w t0 ht6 (by rw [beq_eq_false_iff_ne]; omega) (by rw [beq_eq_false_iff_ne]; omega) hs20

end Go.Proofs.Qxb6628169aDoor
