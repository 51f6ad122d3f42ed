/-
  The walk of FnReadListMarkerMatchesModel (3) at every input.
-/
import Derived.Test.Qxb6628227aCopy
import Derived.Test.Qxb6628227aModel3
namespace Go.Proofs.Qxb6628227a
open Go.RowKit
set_option linter.unusedVariables false

theorem mhide {p : Prop} (h : p) : Hid p := h

set_option maxRecDepth 100000 in
set_option maxHeartbeats 4000000 in
theorem match_some (x : Addr) (n cap : Nat) (z : Nat → Int) (col : Int) (w : World) (hn : n ≤ 1048576) (hs : Src w x n z) (hz : Rng z) (c0 : 0 ≤ col) (c1 : col ≤ 1073741824) :
    Calls Try.prog 3 #[.slice (some x) n cap, .int .i64 col] w fun e w' => e = .returned (.bool true) ∧ Below w.heap.size w w' := by
  obtain ⟨w1, w2, hmk, hcp, hb2, hr2⟩ := copied x n cap z w hn hs
  have hne : ∀ W, (binOp .neq 22 (.slice (some x) n cap) (.slice none 0 0)).run Try.prog W = .ok (.bool true) W := fun W => run_neq_slice_nil_any W 22 5 (some x) n cap 0 0 Try.underlying22
  obtain ⟨a1, a2, a3, a4, a5, a6, hA⟩ : ∃ a1 a2 a3 a4 a5 a6, rlm z n col = ⟨a1, a2, a3, a4, a5, a6⟩ := ⟨_, _, _, _, _, _, rfl⟩
  have zM := model_any w.heap.size n z col w2 hn hr2 hz c0 (by omega)
  have zA := zz_any w.heap.size n z col w2 (by omega) hr2 hz c0 (by omega)
  rw [hA] at zM zA
  simp only [sixM] at zM
  simp only [sixV] at zA
  have HM := mhide zM
  have HA := mhide zA
  have HB := mhide hb2
  clear zM zA hb2 hr2 hA hs
  go_enter Try.func3, Try.ntmps3
  go_wp2_with fail
  refine (bytes5_any _ _ _ _ _ (by unfold maxLen; omega)).mono ?_
  rintro e w' ⟨⟨r, rfl⟩, hw⟩
  obtain rfl := hw.symm
  cases r
  · go_wp2_with fail
    go_ret
    exact ⟨rfl, Below.refl _ _⟩
  go_wp2_with fail
  refine HM.out.mono ?_
  rintro e w' ⟨rfl, hw⟩
  obtain rfl := hw.symm
  go_wp2_with fail
  refine HA.out.mono ?_
  rintro e w3 ⟨rfl, hb3⟩
  have HW := mhide (HB.out.trans (hb3.mono HB.out.size))
  clear hb3
  go_wp2_with fail
  go_ret
  exact ⟨rfl, HW.out⟩

set_option maxRecDepth 100000 in
set_option maxHeartbeats 2000000 in
/-- Beyond the function's own bounds: true at once. -/
theorem match_out (a : Option Addr) (n cap : Nat) (col : Int) (w : World) (hn : n ≤ maxLen)
    (h : 1048576 < n ∨ (n ≤ 1048576 ∧ col < 0) ∨ (n ≤ 1048576 ∧ 0 ≤ col ∧ 1073741824 < col)) :
    Calls Try.prog 3 #[.slice a n cap, .int .i64 col] w fun e w' => e = .returned (.bool true) ∧ Below w.heap.size w w' := by
  have hn1 := hn
  unfold maxLen at hn1
  rcases h with h | ⟨h, h'⟩ | ⟨h, h', h''⟩
  all_goals
    go_enter Try.func3, Try.ntmps3
    go_wp2_with fail
    refine (bytes5_any _ _ _ _ _ hn).mono ?_
    rintro e w' ⟨⟨r, rfl⟩, hw⟩
    obtain rfl := hw.symm
    cases r
    all_goals
      go_wp2_with fail
      go_ret
      exact ⟨rfl, Below.refl _ _⟩

set_option maxRecDepth 100000 in
set_option maxHeartbeats 4000000 in
/-- A nil slice. -/
theorem match_nil (col : Int) (w : World) (c0 : 0 ≤ col) (c1 : col ≤ 1073741824) :
    Calls Try.prog 3 #[.slice none 0 0, .int .i64 col] w fun e w' => e = .returned (.bool true) ∧ Below w.heap.size w w' := by
  have hne : ∀ W, (binOp .neq 22 (.slice none 0 0) (.slice none 0 0)).run Try.prog W = .ok (.bool false) W := fun W => run_neq_slice_nil_any W 22 5 none 0 0 0 0 Try.underlying22
  have zM := model_nil col w c0 (by omega)
  have zA := zz_nil col w
  simp only [sixM, no] at zM
  simp only [sixV, no] at zA
  have HM := mhide zM
  have HA := mhide zA
  clear zM zA
  go_enter Try.func3, Try.ntmps3
  go_wp2_with fail
  refine (bytes5_any _ _ _ _ _ (by unfold maxLen; omega)).mono ?_
  rintro e w' ⟨⟨r, rfl⟩, hw⟩
  obtain rfl := hw.symm
  cases r
  · go_wp2_with fail
    go_ret
    exact ⟨rfl, Below.refl _ _⟩
  go_wp2_with fail
  refine HM.out.mono ?_
  rintro e w' ⟨rfl, hw⟩
  obtain rfl := hw.symm
  go_wp2_with fail
  refine HA.out.mono ?_
  rintro e w3 ⟨rfl, hb3⟩
  go_wp2_with fail
  go_ret
  exact ⟨rfl, hb3⟩

end Go.Proofs.Qxb6628227a
