/-
  The walk of FnReadListMarkerLeadingSpaceIsOneColumn (4): nothing is read, more ways.
-/
import Derived.Test.Qxb6628227aLead
import Derived.Deep.DeepCutAuto
import Derived.Deep.CutBlock
namespace Go.Proofs.Qxb6628227a
open Go.RowKit
set_option linter.unusedVariables false

set_option maxRecDepth 100000 in
set_option maxHeartbeats 8000000 in
/-- Nothing is read; a bullet with something else behind it. -/
theorem lead_no1 (x : Addr) (n cap : Nat) (z : Nat → Int) (col : Int) (w : World) (hn : n ≤ 1048576) (hs : Src w x n z) (hz : Rng z) (c0 : 0 ≤ col) (c1 : col ≤ 1073741824)
    (hA : rlm z n (col + 1) = no) (hB : rlm (spaced z) (n + 1) col = no)
    (hcond : 2 ≤ n ∧ bnd z n 1 = false ∧ z 0 < 48 ∧ ((z 0 == 45) = true ∨ ((z 0 == 45) = false ∧ (z 0 == 43) = true) ∨ ((z 0 == 45) = false ∧ (z 0 == 43) = false ∧ (z 0 == 42) = true))) :
    Calls Try.prog 4 #[.slice (some x) n cap, .int .i64 col] w fun e w' => e = .returned (.bool true) ∧ Below w.heap.size w w' := by
  obtain ⟨w1, w2, hmk, hcp, hb2, hr2⟩ := copied x n cap z w hn hs
  have HR : Hid (Row w2 w.heap.size 0 n z) := hr2
  have HB : Hid (Below w.heap.size w w2) := hb2
  have hlt2 := hr2.1
  have hne : ∀ W, (binOp .neq 22 (.slice (some x) n cap) (.slice none 0 0)).run Try.prog W = .ok (.bool true) W := fun W => run_neq_slice_nil_any W 22 5 (some x) n cap 0 0 Try.underlying22
  obtain ⟨p, hp⟩ : ∃ p, lead isInd z n = p := ⟨_, rfl⟩
  have HP : Hid (lead isInd z n = p) := hp
  have hpn : p ≤ n := by rw [← hp]; exact lead_le _ _ _
  obtain ⟨arr0, ha0, hmk2⟩ := make_run (n + 1) (by omega) ((n : Int) + 1) (by omega) w2
  have HA0 : Hid (arr0.size = n + 1) := ha0
  have HA : Hid (rlm z n (col + 1) = no) := hA
  have HBB : Hid (rlm (spaced z) (n + 1) col = no) := hB
  have HH := lhide hcond
  clear hr2 hb2 hp ha0 hs hA hB hcond
  go_enter Try.func4, Try.ntmps4
  go_wp2_with fail
  refine (bytes8_any _ _ _ _ _ (by unfold maxLen; omega)).mono ?_
  rintro e w' ⟨⟨r, rfl⟩, hw⟩
  obtain rfl := hw.symm
  cases r
  · go_wp2_with fail
    go_ret
    exact ⟨rfl, Below.refl _ _⟩
  go_upto_block 0 with fail
  go_cut [6] (fun s6 w' => s6 = .int .i64 (p : Int) ∧ Hid (w' = w2))
  case first =>
    go_wp2_with fail
    go_loop [6] (fun s => ∃ q : Nat, q ≤ p ∧ s = .int .i64 (q : Int)) (fun s => p - (intOf s).toNat)
    case atStart => exact ⟨0, by omega, rfl⟩
    case round =>
      obtain ⟨q, hq, rfl⟩ := hrel
      by_cases hlt : q < p
      · have hc := HR.out.cell0 q (by omega)
        have hi : isInd (z q) = true := by have := lead_all isInd z n q (by rw [HP.out]; exact hlt); exact this
        have hqn : (q : Int) < (n : Int) := by omega
        go_wp2_with fail
        refine (indent_byte (z q) _).mono ?_
        rintro e w' ⟨rfl, hw⟩
        obtain rfl := hw.symm
        go_wp2_with fail
        go_round
        case rel => exact ⟨q + 1, by omega, by go_num⟩
        case measure => simp [intOf]; omega
      · have hqp : (q : Int) = (p : Int) := by omega
        rw [hqp]
        clear hqp
        by_cases hpn' : p < n
        · have hc := HR.out.cell0 p hpn'
          have hi : isInd (z p) = false := by have := lead_stop isInd z n (by rw [HP.out]; exact hpn'); rwa [HP.out] at this
          go_wp2_with fail
          refine (indent_byte (z p) _).mono ?_
          rintro e w' ⟨rfl, hw⟩
          obtain rfl := hw.symm
          go_wp2_with fail
          go_meet
          case rel => exact ⟨rfl, rfl⟩
        · go_wp2_with fail
          go_meet
          case rel => exact ⟨rfl, rfl⟩
  case rest =>
    obtain ⟨rfl, hwc⟩ := hcut
    have hwc' := hwc.out
    subst hwc'
    clear hwc
    obtain ⟨v0, hv0⟩ : ∃ v, arr0[0]? = some v := ⟨_, Array.getElem?_eq_getElem (by rw [HA0.out]; omega)⟩
    go_wp2_with fail
    go_loopw [8] (fun s wr => ∃ (q : Nat) (arr : Array Value), q ≤ n ∧ s = .int .i64 (q : Int) ∧ Hid (wr = wc.alloc (.cells arr 5)) ∧ Hid (arr.size = n + 1 ∧ ∀ t, t ≤ q → arr[t]? = some (.int .u8 (spaced z t)))) (fun s _ => n - (intOf s).toNat)
    case atStart =>
      refine ⟨0, _, by omega, rfl, rfl, by simp [HA0.out], fun t ht => ?_⟩
      obtain rfl : t = 0 := by omega
      rw [Array.getElem?_setIfInBounds, if_pos rfl, if_pos (by rw [HA0.out]; omega)]
      rfl
    case round =>
      obtain ⟨q, arr, hq, rfl, hwr, ha⟩ := hrel
      have hwr' := hwr.out
      subst hwr'
      by_cases hlt : q < n
      · have hc := HR.out.cell0 q hlt
        obtain ⟨v1, hv1⟩ : ∃ v, arr[q + 1]? = some v := ⟨_, Array.getElem?_eq_getElem (by rw [ha.out.1]; omega)⟩
        go_wp2_with fail
        refine ⟨⟨q + 1, _, by omega, by go_num, rfl, by simp [ha.out.1], fun t ht => ?_⟩, by simp [intOf]; omega⟩
        rw [Array.getElem?_setIfInBounds]
        by_cases e : t = q + 1
        · rw [e, if_pos rfl, if_pos (by rw [ha.out.1]; omega), spaced_succ]
        · rw [if_neg (by omega)]
          exact ha.out.2 t (by omega)
      · have hqn : (q : Int) = (n : Int) := by omega
        rw [hqn]
        clear hqn
        have hbW : Below w.heap.size w (wc.alloc (.cells arr 5)) := HB.out.alloc HB.out.size _
        have hrA : Row (wc.alloc (.cells arr 5)) w.heap.size 0 n z := HR.out.later ((Below.refl _ wc).alloc (Nat.le_refl _) _) hlt2
        have hrB : Row (wc.alloc (.cells arr 5)) wc.heap.size 0 (n + 1) (spaced z) := ⟨by simp, fun j hj => by
          rw [Nat.zero_add, World.cell?_alloc_at _ _ _ _ rfl]
          exact ha.out.2 j (by omega)⟩
        have hzB : Rng (spaced z) := fun j => by
          unfold spaced
          split
          · omega
          · exact hz _
        have HW : Hid (Below w.heap.size w (wc.alloc (.cells arr 5)) ∧ Row (wc.alloc (.cells arr 5)) w.heap.size 0 n z ∧ Row (wc.alloc (.cells arr 5)) wc.heap.size 0 (n + 1) (spaced z) ∧ Rng (spaced z)) := ⟨hbW, hrA, hrB, hzB⟩
        clear hbW hrA hrB hzB
        have zA := zz_any w.heap.size n z (col + 1) (wc.alloc (.cells arr 5)) (by omega) HW.out.2.1 hz (by omega) (by omega)
        rw [HA.out] at zA
        have zB := fun (w3 : World) (hb3 : Below (wc.alloc (.cells arr 5)).heap.size (wc.alloc (.cells arr 5)) w3) => zz_any wc.heap.size (n + 1) (spaced z) col w3 (by omega) (HW.out.2.2.1.later hb3 HW.out.2.2.1.1) HW.out.2.2.2 c0 (by omega)
        rw [HBB.out] at zB
        simp only [sixV, no] at zA zB
        have HZB := lhide zB
        clear zB
        go_wp2_with fail
        refine zA.mono ?_
        clear zA
        rintro e w3 ⟨rfl, hb3⟩
        have hbw3 : Below w.heap.size w w3 := HW.out.1.trans (hb3.mono HW.out.1.size)
        have hrw3 : Row w3 w.heap.size 0 n z := HW.out.2.1.later hb3 HW.out.2.1.1
        have HW3 := lhide (And.intro hbw3 hrw3)
        clear hbw3 hrw3
        go_wp2_with fail
        refine (HZB.out w3 hb3).mono ?_
        clear HZB
        rintro e w4 ⟨rfl, hb4⟩
        have hbw4 : Below w.heap.size w w4 := HW3.out.1.trans (hb4.mono HW3.out.1.size)
        have hrw4 : Row w4 w.heap.size 0 n z := HW3.out.2.later hb4 HW3.out.2.1
        have HW4 := lhide (And.intro hbw4 hrw4)
        clear hbw4 hrw4 HW3 hb3 hb4
        have hcond := HH.out
        clear HH
        obtain ⟨h2, hbn, z48, hcond⟩ := hcond
        have hc0 := HW4.out.2.cell0 0 (by omega)
        have hc1 := HW4.out.2.cell0 1 (by omega)
        rcases hcond with b1 | ⟨b1, b2⟩ | ⟨b1, b2, b3⟩
        all_goals
          go_wp2_with fail
          refine (boundary_at w.heap.size 0 n n 1 z 1 _ rfl (by omega) HW4.out.2 (by omega)).mono ?_
          rintro e w' ⟨rfl, hw⟩
          obtain rfl := hw.symm
          go_wp2_with fail
          go_ret
          exact ⟨rfl, HW4.out.1⟩

set_option maxRecDepth 100000 in
set_option maxHeartbeats 8000000 in
/-- Nothing is read; a digit and a delimiter with something else behind them. -/
theorem lead_no2 (x : Addr) (n cap : Nat) (z : Nat → Int) (col : Int) (w : World) (hn : n ≤ 1048576) (hs : Src w x n z) (hz : Rng z) (c0 : 0 ≤ col) (c1 : col ≤ 1073741824)
    (hA : rlm z n (col + 1) = no) (hB : rlm (spaced z) (n + 1) col = no)
    (hcond : 2 ≤ n ∧ bnd z n 2 = false ∧ (z 0 == 45) = false ∧ (z 0 == 43) = false ∧ (z 0 == 42) = false ∧ 48 ≤ z 0 ∧ z 0 ≤ 57 ∧ ((z 1 == 46) = true ∨ ((z 1 == 46) = false ∧ (z 1 == 41) = true))) :
    Calls Try.prog 4 #[.slice (some x) n cap, .int .i64 col] w fun e w' => e = .returned (.bool true) ∧ Below w.heap.size w w' := by
  obtain ⟨w1, w2, hmk, hcp, hb2, hr2⟩ := copied x n cap z w hn hs
  have HR : Hid (Row w2 w.heap.size 0 n z) := hr2
  have HB : Hid (Below w.heap.size w w2) := hb2
  have hlt2 := hr2.1
  have hne : ∀ W, (binOp .neq 22 (.slice (some x) n cap) (.slice none 0 0)).run Try.prog W = .ok (.bool true) W := fun W => run_neq_slice_nil_any W 22 5 (some x) n cap 0 0 Try.underlying22
  obtain ⟨p, hp⟩ : ∃ p, lead isInd z n = p := ⟨_, rfl⟩
  have HP : Hid (lead isInd z n = p) := hp
  have hpn : p ≤ n := by rw [← hp]; exact lead_le _ _ _
  obtain ⟨arr0, ha0, hmk2⟩ := make_run (n + 1) (by omega) ((n : Int) + 1) (by omega) w2
  have HA0 : Hid (arr0.size = n + 1) := ha0
  have HA : Hid (rlm z n (col + 1) = no) := hA
  have HBB : Hid (rlm (spaced z) (n + 1) col = no) := hB
  have HH := lhide hcond
  clear hr2 hb2 hp ha0 hs hA hB hcond
  go_enter Try.func4, Try.ntmps4
  go_wp2_with fail
  refine (bytes8_any _ _ _ _ _ (by unfold maxLen; omega)).mono ?_
  rintro e w' ⟨⟨r, rfl⟩, hw⟩
  obtain rfl := hw.symm
  cases r
  · go_wp2_with fail
    go_ret
    exact ⟨rfl, Below.refl _ _⟩
  go_upto_block 0 with fail
  go_cut [6] (fun s6 w' => s6 = .int .i64 (p : Int) ∧ Hid (w' = w2))
  case first =>
    go_wp2_with fail
    go_loop [6] (fun s => ∃ q : Nat, q ≤ p ∧ s = .int .i64 (q : Int)) (fun s => p - (intOf s).toNat)
    case atStart => exact ⟨0, by omega, rfl⟩
    case round =>
      obtain ⟨q, hq, rfl⟩ := hrel
      by_cases hlt : q < p
      · have hc := HR.out.cell0 q (by omega)
        have hi : isInd (z q) = true := by have := lead_all isInd z n q (by rw [HP.out]; exact hlt); exact this
        have hqn : (q : Int) < (n : Int) := by omega
        go_wp2_with fail
        refine (indent_byte (z q) _).mono ?_
        rintro e w' ⟨rfl, hw⟩
        obtain rfl := hw.symm
        go_wp2_with fail
        go_round
        case rel => exact ⟨q + 1, by omega, by go_num⟩
        case measure => simp [intOf]; omega
      · have hqp : (q : Int) = (p : Int) := by omega
        rw [hqp]
        clear hqp
        by_cases hpn' : p < n
        · have hc := HR.out.cell0 p hpn'
          have hi : isInd (z p) = false := by have := lead_stop isInd z n (by rw [HP.out]; exact hpn'); rwa [HP.out] at this
          go_wp2_with fail
          refine (indent_byte (z p) _).mono ?_
          rintro e w' ⟨rfl, hw⟩
          obtain rfl := hw.symm
          go_wp2_with fail
          go_meet
          case rel => exact ⟨rfl, rfl⟩
        · go_wp2_with fail
          go_meet
          case rel => exact ⟨rfl, rfl⟩
  case rest =>
    obtain ⟨rfl, hwc⟩ := hcut
    have hwc' := hwc.out
    subst hwc'
    clear hwc
    obtain ⟨v0, hv0⟩ : ∃ v, arr0[0]? = some v := ⟨_, Array.getElem?_eq_getElem (by rw [HA0.out]; omega)⟩
    go_wp2_with fail
    go_loopw [8] (fun s wr => ∃ (q : Nat) (arr : Array Value), q ≤ n ∧ s = .int .i64 (q : Int) ∧ Hid (wr = wc.alloc (.cells arr 5)) ∧ Hid (arr.size = n + 1 ∧ ∀ t, t ≤ q → arr[t]? = some (.int .u8 (spaced z t)))) (fun s _ => n - (intOf s).toNat)
    case atStart =>
      refine ⟨0, _, by omega, rfl, rfl, by simp [HA0.out], fun t ht => ?_⟩
      obtain rfl : t = 0 := by omega
      rw [Array.getElem?_setIfInBounds, if_pos rfl, if_pos (by rw [HA0.out]; omega)]
      rfl
    case round =>
      obtain ⟨q, arr, hq, rfl, hwr, ha⟩ := hrel
      have hwr' := hwr.out
      subst hwr'
      by_cases hlt : q < n
      · have hc := HR.out.cell0 q hlt
        obtain ⟨v1, hv1⟩ : ∃ v, arr[q + 1]? = some v := ⟨_, Array.getElem?_eq_getElem (by rw [ha.out.1]; omega)⟩
        go_wp2_with fail
        refine ⟨⟨q + 1, _, by omega, by go_num, rfl, by simp [ha.out.1], fun t ht => ?_⟩, by simp [intOf]; omega⟩
        rw [Array.getElem?_setIfInBounds]
        by_cases e : t = q + 1
        · rw [e, if_pos rfl, if_pos (by rw [ha.out.1]; omega), spaced_succ]
        · rw [if_neg (by omega)]
          exact ha.out.2 t (by omega)
      · have hqn : (q : Int) = (n : Int) := by omega
        rw [hqn]
        clear hqn
        have hbW : Below w.heap.size w (wc.alloc (.cells arr 5)) := HB.out.alloc HB.out.size _
        have hrA : Row (wc.alloc (.cells arr 5)) w.heap.size 0 n z := HR.out.later ((Below.refl _ wc).alloc (Nat.le_refl _) _) hlt2
        have hrB : Row (wc.alloc (.cells arr 5)) wc.heap.size 0 (n + 1) (spaced z) := ⟨by simp, fun j hj => by
          rw [Nat.zero_add, World.cell?_alloc_at _ _ _ _ rfl]
          exact ha.out.2 j (by omega)⟩
        have hzB : Rng (spaced z) := fun j => by
          unfold spaced
          split
          · omega
          · exact hz _
        have HW : Hid (Below w.heap.size w (wc.alloc (.cells arr 5)) ∧ Row (wc.alloc (.cells arr 5)) w.heap.size 0 n z ∧ Row (wc.alloc (.cells arr 5)) wc.heap.size 0 (n + 1) (spaced z) ∧ Rng (spaced z)) := ⟨hbW, hrA, hrB, hzB⟩
        clear hbW hrA hrB hzB
        have zA := zz_any w.heap.size n z (col + 1) (wc.alloc (.cells arr 5)) (by omega) HW.out.2.1 hz (by omega) (by omega)
        rw [HA.out] at zA
        have zB := fun (w3 : World) (hb3 : Below (wc.alloc (.cells arr 5)).heap.size (wc.alloc (.cells arr 5)) w3) => zz_any wc.heap.size (n + 1) (spaced z) col w3 (by omega) (HW.out.2.2.1.later hb3 HW.out.2.2.1.1) HW.out.2.2.2 c0 (by omega)
        rw [HBB.out] at zB
        simp only [sixV, no] at zA zB
        have HZB := lhide zB
        clear zB
        go_wp2_with fail
        refine zA.mono ?_
        clear zA
        rintro e w3 ⟨rfl, hb3⟩
        have hbw3 : Below w.heap.size w w3 := HW.out.1.trans (hb3.mono HW.out.1.size)
        have hrw3 : Row w3 w.heap.size 0 n z := HW.out.2.1.later hb3 HW.out.2.1.1
        have HW3 := lhide (And.intro hbw3 hrw3)
        clear hbw3 hrw3
        go_wp2_with fail
        refine (HZB.out w3 hb3).mono ?_
        clear HZB
        rintro e w4 ⟨rfl, hb4⟩
        have hbw4 : Below w.heap.size w w4 := HW3.out.1.trans (hb4.mono HW3.out.1.size)
        have hrw4 : Row w4 w.heap.size 0 n z := HW3.out.2.later hb4 HW3.out.2.1
        have HW4 := lhide (And.intro hbw4 hrw4)
        clear hbw4 hrw4 HW3 hb3 hb4
        have hcond := HH.out
        clear HH
        obtain ⟨h2, hbn, b1, b2, b3, z48, z57, hcond⟩ := hcond
        have hc0 := HW4.out.2.cell0 0 (by omega)
        have hc1 := HW4.out.2.cell0 1 (by omega)
        rcases hcond with d1 | ⟨d1, d2⟩
        all_goals
          go_wp2_with fail
          refine (boundary_at w.heap.size 0 n n 2 z 2 _ rfl (by omega) HW4.out.2 (by omega)).mono ?_
          rintro e w' ⟨rfl, hw⟩
          obtain rfl := hw.symm
          go_wp2_with fail
          go_ret
          exact ⟨rfl, HW4.out.1⟩

end Go.Proofs.Qxb6628227a
