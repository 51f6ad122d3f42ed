/-
  The walk of FnStartStringDistinctAndNamedExactlyOnTheThree (4).
-/
import Derived.Test.Qxb6627487aDoorPlain
namespace Go.Proofs.Qxb6627487aDoor
open Go.RowKit

set_option maxHeartbeats 2000000 in
theorem distinct_any (a b : Int) (w : World) (a0 : -9223372036854775808 ≤ a) (a1 : a ≤ 9223372036854775807) (b0 : -9223372036854775808 ≤ b) (b1 : b ≤ 9223372036854775807) (htab : Lib.TabIs Tryd.prog w powName .u64 Lib.pow10Tab) :
    Calls Tryd.prog 4 #[.int .i64 a, .int .i64 b] w fun e w' => e = .returned (.bool true) ∧ Below w.heap.size w w' := by
  have HT : Hid (Lib.TabIs Tryd.prog w powName .u64 Lib.pow10Tab) := htab
  clear htab
  have hpos := start_pos a
  have hsame := same_start a b
  obtain ⟨c1, c2, c3, n1, n2, n3, hc⟩ := names a
  cases hab : (a == b)
  all_goals
    rw [hab] at hsame
    rcases hc with ⟨rfl, rfl, rfl, rfl⟩ | ⟨rfl, rfl, rfl, rfl⟩ | ⟨rfl, rfl, rfl, rfl⟩ | ⟨hc | ⟨hc, hd⟩, rfl, rfl, rfl⟩
  all_goals
    go_enter Tryd.func4, Tryd.ntmps4
    go_wp2_with fail
    refine (string_any _ _ a0 a1 HT.out).mono ?_
    rintro e w1 ⟨rfl, hb1⟩
    go_wp2_with fail
    refine (string_any b _ b0 b1 (Lib.tabBelow_of_tabIs HT.out w1 hb1)).mono ?_
    rintro e w2 ⟨rfl, hb2⟩
    go_wp2
    go_ret
    exact ⟨rfl, hb1.trans (hb2.mono hb1.size)⟩

end Go.Proofs.Qxb6627487aDoor
