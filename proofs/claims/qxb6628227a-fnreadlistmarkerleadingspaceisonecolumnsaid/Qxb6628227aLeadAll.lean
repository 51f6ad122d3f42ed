/-
  The walk of FnReadListMarkerLeadingSpaceIsOneColumn (4) at every input.
-/
import Derived.Test.Qxb6628227aLeadNo
import Derived.Test.Qxb6628227aLeadYes
import Derived.Test.Qxb6628227aLeadDeep
import Derived.Test.Qxb6628227aLeadStart
namespace Go.Proofs.Qxb6628227a
open Go.RowKit
set_option linter.unusedVariables false

theorem lead_some (x : Addr) (n cap : Nat) (z : Nat → Int) (col : Int) (w : World) (hn : n ≤ 1048576) (hs : Src w x n z) (hz : Rng z) (c0 : 0 ≤ col) (c1 : col ≤ 1073741824) :
    Calls Try.prog 4 #[.slice (some x) n cap, .int .i64 col] w fun e w' => e = .returned (.bool true) ∧ Below w.heap.size w w' := by
  -- what stands at the start
  have hstart : (1 ≤ n ∧ isBul (z 0) = true ∧ bnd z n 1 = true) ∨ (2 ≤ n ∧ 48 ≤ z 0 ∧ z 0 ≤ 57 ∧ isDel (z 1) = true ∧ bnd z n 2 = true) ∨
      (n < 1 ∨ (1 ≤ n ∧ (z 0 == 45) = false ∧ (z 0 == 43) = false ∧ (z 0 == 42) = false ∧ n < 2) ∨ (2 ≤ n ∧ (z 0 == 45) = false ∧ (z 0 == 43) = false ∧ (z 0 == 42) = false ∧ z 0 < 48) ∨
        (2 ≤ n ∧ (z 0 == 45) = false ∧ (z 0 == 43) = false ∧ (z 0 == 42) = false ∧ 48 ≤ z 0 ∧ 57 < z 0) ∨ (2 ≤ n ∧ (z 0 == 45) = false ∧ (z 0 == 43) = false ∧ (z 0 == 42) = false ∧ 48 ≤ z 0 ∧ z 0 ≤ 57 ∧ (z 1 == 46) = false ∧ (z 1 == 41) = false)) ∨
      (2 ≤ n ∧ bnd z n 1 = false ∧ z 0 < 48 ∧ ((z 0 == 45) = true ∨ ((z 0 == 45) = false ∧ (z 0 == 43) = true) ∨ ((z 0 == 45) = false ∧ (z 0 == 43) = false ∧ (z 0 == 42) = true))) ∨
      (2 ≤ n ∧ bnd z n 2 = false ∧ (z 0 == 45) = false ∧ (z 0 == 43) = false ∧ (z 0 == 42) = false ∧ 48 ≤ z 0 ∧ z 0 ≤ 57 ∧ ((z 1 == 46) = true ∨ ((z 1 == 46) = false ∧ (z 1 == 41) = true))) := by
    by_cases h0 : n < 1
    · exact .inr (.inr (.inl (.inl h0)))
    cases hb : isBul (z 0)
    · obtain ⟨b1, b2, b3⟩ := nobul hb
      by_cases h2 : n < 2
      · exact .inr (.inr (.inl (.inr (.inl ⟨by omega, b1, b2, b3, h2⟩))))
      by_cases h48 : z 0 < 48
      · exact .inr (.inr (.inl (.inr (.inr (.inl ⟨by omega, b1, b2, b3, h48⟩)))))
      by_cases h57 : 57 < z 0
      · exact .inr (.inr (.inl (.inr (.inr (.inr (.inl ⟨by omega, b1, b2, b3, by omega, h57⟩))))))
      cases hd : isDel (z 1)
      · unfold isDel at hd
        rw [Bool.or_eq_false_iff] at hd
        exact .inr (.inr (.inl (.inr (.inr (.inr (.inr ⟨by omega, b1, b2, b3, by omega, by omega, hd.1, hd.2⟩))))))
      · cases he : bnd z n 2
        · refine .inr (.inr (.inr (.inr ⟨by omega, rfl, b1, b2, b3, by omega, by omega, ?_⟩)))
          unfold isDel at hd
          cases h46 : (z 1 == 46)
          · rw [h46, Bool.false_or] at hd
            exact .inr ⟨rfl, hd⟩
          · exact .inl rfl
        · exact .inr (.inl ⟨by omega, by omega, by omega, rfl, rfl⟩)
    · cases he : bnd z n 1
      · have hf := bnd_false (by omega) he
        refine .inr (.inr (.inr (.inl ⟨by omega, rfl, ?_, bul_cases hb⟩)))
        rcases bul_cases hb with h | ⟨_, h⟩ | ⟨_, _, h⟩ <;> (rw [beq_iff_eq] at h; omega)
      · exact .inl ⟨by omega, rfl, rfl⟩
  rcases hstart with ⟨h1, hb, he⟩ | ⟨h1, h48, h57, hd, he⟩ | hcond
  · obtain ⟨l0, hA, hB⟩ := at_start_bul z n col h1 hb he
    refine lead_bul x n cap z col w hn hs hz c0 c1 l0 hA hB ⟨h1, he, ?_, bul_cases hb⟩
    rcases bul_cases hb with h | ⟨_, h⟩ | ⟨_, _, h⟩ <;> (rw [beq_iff_eq] at h; omega)
  · obtain ⟨l0, hA, hB⟩ := at_start_dig z n col h1 h48 h57 hd he
    refine lead_dig x n cap z col w hn hs hz c0 c1 l0 hA hB ⟨h1, he, by rw [beq_eq_false_iff_ne]; omega, by rw [beq_eq_false_iff_ne]; omega, by rw [beq_eq_false_iff_ne]; omega, h48, h57, ?_⟩
    unfold isDel at hd
    cases h46 : (z 1 == 46)
    · rw [h46, Bool.false_or] at hd
      exact .inr ⟨rfl, hd⟩
    · exact .inl rfl
  · rcases space_law z n col with ⟨hA, hB⟩ | ⟨a1, a2, a3, a4, a5, hA, l1, l2, l3, l4, ⟨l5, hB⟩ | ⟨l5, hB⟩⟩
    · rcases hcond with h | h | h
      · exact lead_no0 x n cap z col w hn hs hz c0 c1 hA hB h
      · exact lead_no1 x n cap z col w hn hs hz c0 c1 hA hB h
      · exact lead_no2 x n cap z col w hn hs hz c0 c1 hA hB h
    · rcases hcond with h | h | h
      · exact lead_yes0 x n cap z col w hn hs hz c0 c1 a1 a2 a3 a4 a5 l1 l2 l3 l4 l5 hA hB h
      · exact lead_yes1 x n cap z col w hn hs hz c0 c1 a1 a2 a3 a4 a5 l1 l2 l3 l4 l5 hA hB h
      · exact lead_yes2 x n cap z col w hn hs hz c0 c1 a1 a2 a3 a4 a5 l1 l2 l3 l4 l5 hA hB h
    · rcases hcond with h | h | h
      · exact lead_deep0 x n cap z col w hn hs hz c0 c1 a1 a2 a3 a4 a5 l1 l2 l3 l4 l5 hA hB h
      · exact lead_deep1 x n cap z col w hn hs hz c0 c1 a1 a2 a3 a4 a5 l1 l2 l3 l4 l5 hA hB h
      · exact lead_deep2 x n cap z col w hn hs hz c0 c1 a1 a2 a3 a4 a5 l1 l2 l3 l4 l5 hA hB h

set_option maxRecDepth 100000 in
set_option maxHeartbeats 2000000 in
/-- Beyond the function's own bounds: true at once. -/
theorem lead_out (a : Option Addr) (n cap : Nat) (col : Int) (w : World) (hn : n ≤ maxLen)
    (h : 1048576 < n ∨ (n ≤ 1048576 ∧ col < 0) ∨ (n ≤ 1048576 ∧ 0 ≤ col ∧ 1073741824 < col)) :
    Calls Try.prog 4 #[.slice a n cap, .int .i64 col] w fun e w' => e = .returned (.bool true) ∧ Below w.heap.size w w' := by
  have hn1 := hn
  unfold maxLen at hn1
  rcases h with h | ⟨h, h'⟩ | ⟨h, h', h''⟩
  all_goals
    go_enter Try.func4, Try.ntmps4
    go_wp2_with fail
    refine (bytes8_any _ _ _ _ _ hn).mono ?_
    rintro e w' ⟨⟨r, rfl⟩, hw⟩
    obtain rfl := hw.symm
    cases r
    all_goals
      go_wp2_with fail
      go_ret
      exact ⟨rfl, Below.refl _ _⟩

set_option maxRecDepth 100000 in
set_option maxHeartbeats 4000000 in
/-- A nil slice. -/
theorem lead_nil (col : Int) (w : World) (c0 : 0 ≤ col) (c1 : col ≤ 1073741824) :
    Calls Try.prog 4 #[.slice none 0 0, .int .i64 col] w fun e w' => e = .returned (.bool true) ∧ Below w.heap.size w w' := by
  have hne : ∀ W, (binOp .neq 22 (.slice none 0 0) (.slice none 0 0)).run Try.prog W = .ok (.bool false) W := fun W => run_neq_slice_nil_any W 22 5 none 0 0 0 0 Try.underlying22
  obtain ⟨arr0, ha0, hmk2⟩ := make_run 1 (by omega) 1 rfl w
  have hB : rlm (spaced fun _ => 0) (0 + 1) col = no := by
    rcases space_law (fun _ => 0) 0 col with ⟨_, hB⟩ | ⟨a1, a2, a3, a4, a5, hA, _⟩
    · exact hB
    · exfalso
      have : rlm (fun _ => 0) 0 (col + 1) = no := tail_deep (.inr rfl)
      rw [this] at hA
      have := congrArg Ans.ok hA
      cases this
  have HB := lhide hB
  obtain ⟨v0, hv0⟩ : ∃ v, arr0[0]? = some v := ⟨_, Array.getElem?_eq_getElem (by omega)⟩
  have HA0 := lhide ha0
  clear hB ha0
  go_enter Try.func4, Try.ntmps4
  go_wp2_with fail
  refine (bytes8_any _ _ _ _ _ (by unfold maxLen; omega)).mono ?_
  rintro e w' ⟨⟨r, rfl⟩, hw⟩
  obtain rfl := hw.symm
  cases r
  · go_wp2_with fail
    go_ret
    exact ⟨rfl, Below.refl _ _⟩
  go_wp2_with fail
  go_loop [6] (fun s => s = .int .i64 0) (fun _ => 0)
  case atStart => rfl
  case round =>
    obtain rfl := hrel
    go_wp2_with fail
    go_loop [8] (fun s => s = .int .i64 0) (fun _ => 0)
    case atStart => rfl
    case round =>
      obtain rfl := hrel
      have hrB : Row (w.alloc (.cells (arr0.setIfInBounds 0 (.int .u8 32)) 5)) w.heap.size 0 1 (spaced fun _ => 0) := ⟨by simp, fun j hj => by
        obtain rfl : j = 0 := by omega
        rw [Nat.zero_add, World.cell?_alloc_at _ _ _ _ rfl, Array.getElem?_setIfInBounds, if_pos rfl, if_pos (by rw [HA0.out]; omega)]
        rfl⟩
      have hzB : Rng (spaced fun _ => 0) := fun j => by
        unfold spaced
        split
        · omega
        · show 0 ≤ (0 : Int) ∧ (0 : Int) ≤ 255
          omega
      have HW := lhide (And.intro hrB hzB)
      clear hrB hzB
      have zB := fun (w3 : World) (hb3 : Below (w.alloc (.cells (arr0.setIfInBounds 0 (.int .u8 32)) 5)).heap.size (w.alloc (.cells (arr0.setIfInBounds 0 (.int .u8 32)) 5)) w3) => zz_any w.heap.size 1 (spaced fun _ => 0) col w3 (by omega) (HW.out.1.later hb3 HW.out.1.1) HW.out.2 c0 (by omega)
      rw [show rlm (spaced fun _ => 0) 1 col = no from HB.out] at zB
      have zA := zz_nil (col + 1) (w.alloc (.cells (arr0.setIfInBounds 0 (.int .u8 32)) 5))
      simp only [sixV, no] at zA zB
      have HZB := lhide zB
      clear zB
      go_wp2_with fail
      refine zA.mono ?_
      clear zA
      rintro e w3 ⟨rfl, hb3⟩
      go_wp2_with fail
      refine (HZB.out w3 hb3).mono ?_
      clear HZB
      rintro e w4 ⟨rfl, hb4⟩
      have hbw : Below w.heap.size w (w.alloc (.cells (arr0.setIfInBounds 0 (.int .u8 32)) 5)) := (Below.refl _ _).alloc (Nat.le_refl _) _
      have hbw3 := hbw.trans (hb3.mono hbw.size)
      have HW4 := lhide (hbw3.trans (hb4.mono hbw3.size))
      clear hbw hbw3 hb3 hb4
      go_wp2_with fail
      go_ret
      exact ⟨rfl, HW4.out⟩

end Go.Proofs.Qxb6628227a
