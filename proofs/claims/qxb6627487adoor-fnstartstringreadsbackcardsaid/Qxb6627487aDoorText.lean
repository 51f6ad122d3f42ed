/-
  The text of a Start, plainly; and the walk of Start.String (5).
-/
import Derived.Test.Qxb6627487aDoorRows
import Derived.Test.Qxb6627487aDoorShelf
import Derived.Lib.AppendIntMem
import Derived.WalkKit
import Derived.WalkSpells
import Derived.Lib.ItoaLen
namespace Go.Proofs.Qxb6627487aDoor
open Go.RowKit

/-- The name of strconv's table of the powers of ten, as the row lists it. -/
def powName : String := (Rows.fnStartStringReadsBackRow.laid.getD 2 ("", .nil)).1

/-- The text of a Start. -/
def startList (s : Int) : List UInt8 :=
  if s = 0 then [119, 97, 114, 109] else if s = 1 then [99, 111, 108, 100] else if s = 2 then [114, 101, 106, 101, 99, 116, 101, 100]
  else [83, 116, 97, 114, 116, 40] ++ Lib.itoa s ++ [41]
def startStr (s : Int) : ByteArray := ⟨(startList s).toArray⟩

theorem itoa_calls (n : Int) (h0 : -9223372036854775808 ≤ n) (h1 : n ≤ 9223372036854775807) (w : World) (htab : Lib.TabIs Tryd.prog w powName .u64 Lib.pow10Tab) :
    Calls Tryd.prog 7 #[.int .i64 n] w fun e w' => e = .returned (.string ⟨(Lib.itoa n).toArray⟩) ∧ Below w.heap.size w w' :=
  (Any.strconv_Itoa Tryd.laysM171 n h0 h1 w htab).mono fun _ _ ⟨he, k, os, hw⟩ => ⟨he, by rw [hw]; exact Lib.below_grow _ _ (Nat.le_refl _) _ _⟩

theorem ret_str {a b : ByteArray} (h : a = b) : Ending.returned (.string a) = .returned (.string b) := by rw [h]

set_option maxHeartbeats 400000 in
theorem string_any (s : Int) (w : World) (h0 : -9223372036854775808 ≤ s) (h1 : s ≤ 9223372036854775807) (htab : Lib.TabIs Tryd.prog w powName .u64 Lib.pow10Tab) :
    Calls Tryd.prog 5 #[.int .i64 s] w fun e w' => e = .returned (.string (startStr s)) ∧ Below w.heap.size w w' := by
  by_cases c0 : s = 0
  · subst c0
    go_enter Tryd.func5, Tryd.ntmps5
    go_wp2
    go_ret
    exact ⟨rfl, Below.refl _ _⟩
  by_cases c1 : s = 1
  · subst c1
    go_enter Tryd.func5, Tryd.ntmps5
    go_wp2
    go_ret
    exact ⟨rfl, Below.refl _ _⟩
  by_cases c2 : s = 2
  · subst c2
    go_enter Tryd.func5, Tryd.ntmps5
    go_wp2
    go_ret
    exact ⟨rfl, Below.refl _ _⟩
  have HT : Hid (Lib.TabIs Tryd.prog w powName .u64 Lib.pow10Tab) := htab
  have HE : Hid (startList s = [83, 116, 97, 114, 116, 40] ++ Lib.itoa s ++ [41]) := by
    show startList s = _
    rw [startList, if_neg c0, if_neg c1, if_neg c2]
  have b0 : (s == 0) = false := by simpa using c0
  have b1 : (s == 1) = false := by simpa using c1
  have b2 : (s == 2) = false := by simpa using c2
  have hlen := Lib.itoa_length_le s h0 h1
  clear htab c0 c1 c2
  go_enter Tryd.func5, Tryd.ntmps5
  go_wp2_with fail
  refine (itoa_calls s h0 h1 _ HT.out).mono ?_
  rintro e w1 ⟨rfl, hb1⟩
  go_wp2
  go_ret
  refine ⟨ret_str ?_, hb1⟩
  apply ByteArray.ext
  apply Array.toList_inj.1
  show _ = startList s
  rw [HE.out]
  simp
end Go.Proofs.Qxb6627487aDoor
