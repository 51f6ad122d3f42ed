/-
  The text of a Value, plainly; the walks of ZZnewValue (5), Value.String (6) and zzBytes (8).
-/
import Derived.Test.Qxb6628169aDoorRows
import Derived.Test.Qxb6628169aDoorShelf
import Derived.Lib.AppendIntMem
import Derived.Lib.ItoaLen
import Derived.WalkKit
import Derived.WalkSpells
namespace Go.Proofs.Qxb6628169aDoor
open Go.RowKit

/-- The name of strconv's table of the powers of ten, as the row lists it. -/
def powName : String := (Rows.fnValueStringIntegerIsCanonicalDecimalRow.laid.getD 2 ("", .nil)).1

theorem format_calls (n : Int) (h0 : -9223372036854775808 ≤ n) (h1 : n ≤ 9223372036854775807) (w : World) (htab : Lib.TabIs Tryd.prog w powName .u64 Lib.pow10Tab) :
    Calls Tryd.prog 9 #[.int .i64 n, .int .i64 10] w fun e w' => e = .returned (.string ⟨(Lib.itoa n).toArray⟩) ∧ Below w.heap.size w w' :=
  (Any.strconv_FormatInt_10 Tryd.laysM173 n h0 h1 w htab).mono fun _ _ ⟨he, k, os, hw⟩ => ⟨he, by rw [hw]; exact Lib.below_grow _ _ (Nat.le_refl _) _ _⟩

def numStr (n : Int) : ByteArray := ⟨(Lib.itoa n).toArray⟩

theorem ret_str {a b : ByteArray} (h : a = b) : Ending.returned (.string a) = .returned (.string b) := by rw [h]

set_option maxHeartbeats 400000 in
/-- ZZnewValue. -/
theorem new_any (t i : Int) (s : ByteArray) (w : World) :
    Calls Tryd.prog 5 #[.int .u8 t, .int .i64 i, .string s] w fun e w' => e = .returned (.agg #[.int .u8 t, .int .i64 i, .string s]) ∧ Below w.heap.size w w' := by
  go_enter Tryd.func5, Tryd.ntmps5
  go_wp2
  exact bodyPost_ret (v := .agg #[.int .u8 t, .int .i64 i, .string s]) (by simp [results, Tryd.results5, go_sem]) rfl ⟨rfl, (Below.refl _ _).alloc (Nat.le_refl _) _⟩

set_option maxHeartbeats 400000 in
/-- Value.String at an Integer. -/
theorem string_int (i : Int) (s : ByteArray) (w : World) (h0 : -9223372036854775808 ≤ i) (h1 : i ≤ 9223372036854775807) (htab : Lib.TabIs Tryd.prog w powName .u64 Lib.pow10Tab) :
    Calls Tryd.prog 6 #[.agg #[.int .u8 1, .int .i64 i, .string s]] w fun e w' => e = .returned (.string (numStr i)) ∧ Below w.heap.size w w' := by
  have HT : Hid (Lib.TabBelow Tryd.prog w.heap.size w powName .u64 Lib.pow10Tab) := Lib.tabBelow_of_tabIs htab
  clear htab
  go_enter Tryd.func6, Tryd.ntmps6
  go_wp2_with fail
  refine (format_calls i h0 h1 _ (HT.out _ ((Below.refl _ _).alloc (Nat.le_refl _) _))).mono ?_
  rintro e w1 ⟨rfl, hb1⟩
  go_wp2
  go_ret
  exact ⟨rfl, ((Below.refl _ _).alloc (Nat.le_refl _) _).trans (hb1.mono (by simp))⟩

set_option maxHeartbeats 400000 in
/-- Value.String at a Boolean that is false. -/
theorem string_false (s : ByteArray) (w : World) :
    Calls Tryd.prog 6 #[.agg #[.int .u8 3, .int .i64 0, .string s]] w fun e w' => e = .returned (.string ⟨#[102]⟩) ∧ Below w.heap.size w w' := by
  go_enter Tryd.func6, Tryd.ntmps6
  go_wp2
  go_ret
  exact ⟨rfl, (Below.refl _ _).alloc (Nat.le_refl _) _⟩

set_option maxHeartbeats 400000 in
/-- .. that is true. -/
theorem string_true (s : ByteArray) (w : World) :
    Calls Tryd.prog 6 #[.agg #[.int .u8 3, .int .i64 1, .string s]] w fun e w' => e = .returned (.string ⟨#[116]⟩) ∧ Below w.heap.size w w' := by
  go_enter Tryd.func6, Tryd.ntmps6
  go_wp2
  go_ret
  exact ⟨rfl, (Below.refl _ _).alloc (Nat.le_refl _) _⟩

set_option maxHeartbeats 400000 in
/-- Value.String at every other kind. -/
theorem string_text (t i : Int) (s : ByteArray) (w : World) (t1 : (t == 1) = false) (t3 : (t == 3) = false) :
    Calls Tryd.prog 6 #[.agg #[.int .u8 t, .int .i64 i, .string s]] w fun e w' => e = .returned (.string s) ∧ Below w.heap.size w w' := by
  go_enter Tryd.func6, Tryd.ntmps6
  go_wp2
  go_ret
  exact ⟨rfl, (Below.refl _ _).alloc (Nat.le_refl _) _⟩

set_option maxHeartbeats 400000 in
/-- zzBytes: some bool; nothing turns. -/
theorem bytes_any (t i : Int) (s : ByteArray) (w : World) (hs : s.size ≤ maxLen) :
    Calls Tryd.prog 8 #[.int .u8 t, .int .i64 i, .string s] w fun e w' => (∃ r : Bool, e = .returned (.bool r)) ∧ w' = w := by
  unfold maxLen at hs
  go_enter Tryd.func8, Tryd.ntmps8
  go_wp2
  all_goals
    go_ret
    exact ⟨⟨_, rfl⟩, rfl⟩

end Go.Proofs.Qxb6628169aDoor
