/-
  The walk of FnValueStringIntegerIsCanonicalDecimal (3).
-/
import Derived.Test.Qxb6628169aDoorParse
import Derived.Laws.IdiomStrings
import Derived.Lib.ItoaMem
namespace Go.Proofs.Qxb6628169aDoor
open Go.RowKit
set_option linter.unusedVariables false

/-- Go's quotient and remainder by ten. -/
theorem parts (i : Int) : i = 10 * i.tdiv 10 + i.tmod 10 ∧ (0 ≤ i → 0 ≤ i.tdiv 10 ∧ 0 ≤ i.tmod 10 ∧ i.tmod 10 ≤ 9 ∧ i / 10 = i.tdiv 10 ∧ i % 10 = i.tmod 10) ∧ (i < 0 → i.tdiv 10 ≤ 0 ∧ -9 ≤ i.tmod 10 ∧ i.tmod 10 ≤ 0) := by
  refine ⟨(Int.mul_tdiv_add_tmod i 10).symm, fun h => ?_, fun h => ?_⟩
  · rw [Int.tdiv_eq_ediv_of_nonneg h, Int.tmod_eq_emod_of_nonneg h]
    omega
  · obtain ⟨n, rfl⟩ : ∃ n : Nat, i = -(n : Int) := ⟨i.natAbs, by omega⟩
    rw [Int.neg_tdiv, Int.neg_tmod, Int.tdiv_eq_ediv_of_nonneg (by omega), Int.tmod_eq_emod_of_nonneg (by omega)]
    omega

def lastDigit (r : Int) : UInt8 := UInt8.ofNat (48 + r.natAbs)

theorem lastDigit_nat (r : Int) (h : r.natAbs ≤ 9) : (lastDigit r).toNat = 48 + r.natAbs := dig_nat _ (by omega)

theorem split_big (i q r : Int) (h : i = 10 * q + r) (hp : 0 ≤ i → 0 ≤ q ∧ 0 ≤ r ∧ r ≤ 9) (hn : i < 0 → q ≤ 0 ∧ -9 ≤ r ∧ r ≤ 0) (hq : q ≠ 0) : Lib.itoa i = Lib.itoa q ++ [lastDigit r] := by
  have key : ∀ (u v d : Nat), u = 10 * v + d → d ≤ 9 → 1 ≤ v → Lib.decDigits u = Lib.decDigits v ++ [UInt8.ofNat (48 + d)] := by
    intro u v d hu hd hv
    rw [dec_big u (by omega), show u / 10 = v by omega, show u % 10 = d by omega]
  unfold Lib.itoa lastDigit
  by_cases hi : i < 0
  · have := hn hi
    rw [if_pos hi, if_pos (by omega), key i.natAbs q.natAbs r.natAbs (by omega) (by omega) (by omega)]
    rfl
  · have := hp (by omega)
    rw [if_neg hi, if_neg (by omega), key i.toNat q.toNat r.natAbs (by omega) (by omega) (by omega)]

theorem split_small (i r : Int) (h : i = r) (hp : 0 ≤ i → r ≤ 9) (hn : i < 0 → -9 ≤ r) : Lib.itoa i = if i < 0 then [45, lastDigit r] else [lastDigit r] := by
  subst h
  unfold Lib.itoa lastDigit
  by_cases hi : i < 0
  · have := hn hi
    rw [if_pos hi, if_pos hi, Lib.decDigits_one (by omega)]
  · have := hp (by omega)
    rw [if_neg hi, if_neg hi, Lib.decDigits_one (by omega), show i.toNat = i.natAbs by omega]

/-- string([]byte{x}). -/
theorem conv_one (X : World) (x : Int) (c : UInt8) (hx : x = (c.toNat : Int)) :
    (convert 29 9 (.slice (some ⟨X.heap.size, 0, none⟩) 1 1)).run Tryd.prog (X.alloc (.cells #[.int .u8 x] 5)) = .ok (.string ⟨#[c]⟩) (X.alloc (.cells #[.int .u8 x] 5)) := by
  subst hx
  exact run_convert_bytes_back (P := Tryd.prog) (X.alloc (.cells #[.int .u8 (c.toNat : Int)] 5)) 29 9 5 ⟨X.heap.size, 0, none⟩ 1 [c] Tryd.underlying29 Tryd.underlying5 Tryd.underlying9
    (fun j hj => by
      have hj0 : j = 0 := by simpa using hj
      subst hj0
      rw [Lib.add_plain, World.cell?_alloc_at _ _ _ _ rfl]
      rfl)

set_option maxHeartbeats 2000000 in
theorem decimal_neg_big (i q r : Int) (w : World) (h0 : -9223372036854775808 ≤ i) (h1 : i ≤ 9223372036854775807) (htab : Lib.TabIs Tryd.prog w powName .u64 Lib.pow10Tab)
    (hi : i < 0) (hq : i.tdiv 10 = q) (hr : i.tmod 10 = r) (q0 : -922337203685477580 ≤ q) (q1 : q < 0) (r0 : -9 ≤ r) (r1 : r < 0) (hs : Lib.itoa i = Lib.itoa q ++ [lastDigit r]) :
    Calls Tryd.prog 3 #[.int .i64 i] w fun e w' => e = .returned (.bool true) ∧ Below w.heap.size w w' := by
  have HT : Hid (Lib.TabBelow Tryd.prog w.heap.size w powName .u64 Lib.pow10Tab) := Lib.tabBelow_of_tabIs htab
  have hcv := fun X => conv_one X (48 + -r) (lastDigit r) (by rw [lastDigit_nat r (by omega)]; omega)
  have qn : (q != 0) = true := by rw [bne_iff_ne]; omega
  have HS : Hid (numStr i = numStr q ++ ⟨#[lastDigit r]⟩) := by
    show numStr i = _
    apply ByteArray.ext
    apply Array.toList_inj.1
    show Lib.itoa i = _
    rw [hs]
    simp [numStr]
  have hlen : (numStr q).size ≤ 21 := by
    have := Lib.itoa_length_le q (by omega) (by omega)
    show (Lib.itoa q).toArray.size ≤ 21
    simpa using this
  clear htab hs
  go_enter Tryd.func3, Tryd.ntmps3
  go_wp2_with fail
  refine (new_any 1 i _ _).mono ?_
  rintro e w1 ⟨rfl, hb1⟩
  go_wp2_with fail
  refine (string_int i _ _ h0 h1 (HT.out _ hb1)).mono ?_
  rintro e w2 ⟨rfl, hb2⟩
  have hb12 := hb1.trans (hb2.mono hb1.size)
  go_wp2_with fail
  refine (parse_any i _ h0 h1).mono ?_
  rintro e w3 ⟨rfl, rfl⟩
  go_wp2_with fail
  have hb13 := hb12.alloc hb12.size (.cells #[.int .u8 (48 + -r)] 5)
  refine (new_any 1 q _ _).mono ?_
  rintro e w4 ⟨rfl, hb4⟩
  have hb14 := hb13.trans (hb4.mono hb13.size)
  go_wp2_with fail
  refine (string_int q _ _ (by omega) (by omega) (HT.out _ hb14)).mono ?_
  rintro e w5 ⟨rfl, hb5⟩
  have hs := HS.out
  go_wp2
  go_ret
  exact ⟨rfl, hb14.trans (hb5.mono hb14.size)⟩

set_option maxHeartbeats 2000000 in
theorem decimal_neg_round (i q r : Int) (w : World) (h0 : -9223372036854775808 ≤ i) (h1 : i ≤ 9223372036854775807) (htab : Lib.TabIs Tryd.prog w powName .u64 Lib.pow10Tab)
    (hi : i < 0) (hq : i.tdiv 10 = q) (hr : i.tmod 10 = r) (q0 : -922337203685477580 ≤ q) (q1 : q < 0) (r0 : 0 ≤ r) (r1 : r ≤ 0) (hs : Lib.itoa i = Lib.itoa q ++ [lastDigit r]) :
    Calls Tryd.prog 3 #[.int .i64 i] w fun e w' => e = .returned (.bool true) ∧ Below w.heap.size w w' := by
  have HT : Hid (Lib.TabBelow Tryd.prog w.heap.size w powName .u64 Lib.pow10Tab) := Lib.tabBelow_of_tabIs htab
  have hcv := fun X => conv_one X (48 + r) (lastDigit r) (by rw [lastDigit_nat r (by omega)]; omega)
  have qn : (q != 0) = true := by rw [bne_iff_ne]; omega
  have HS : Hid (numStr i = numStr q ++ ⟨#[lastDigit r]⟩) := by
    show numStr i = _
    apply ByteArray.ext
    apply Array.toList_inj.1
    show Lib.itoa i = _
    rw [hs]
    simp [numStr]
  have hlen : (numStr q).size ≤ 21 := by
    have := Lib.itoa_length_le q (by omega) (by omega)
    show (Lib.itoa q).toArray.size ≤ 21
    simpa using this
  clear htab hs
  go_enter Tryd.func3, Tryd.ntmps3
  go_wp2_with fail
  refine (new_any 1 i _ _).mono ?_
  rintro e w1 ⟨rfl, hb1⟩
  go_wp2_with fail
  refine (string_int i _ _ h0 h1 (HT.out _ hb1)).mono ?_
  rintro e w2 ⟨rfl, hb2⟩
  have hb12 := hb1.trans (hb2.mono hb1.size)
  go_wp2_with fail
  refine (parse_any i _ h0 h1).mono ?_
  rintro e w3 ⟨rfl, rfl⟩
  go_wp2_with fail
  have hb13 := hb12.alloc hb12.size (.cells #[.int .u8 (48 + r)] 5)
  refine (new_any 1 q _ _).mono ?_
  rintro e w4 ⟨rfl, hb4⟩
  have hb14 := hb13.trans (hb4.mono hb13.size)
  go_wp2_with fail
  refine (string_int q _ _ (by omega) (by omega) (HT.out _ hb14)).mono ?_
  rintro e w5 ⟨rfl, hb5⟩
  have hs := HS.out
  go_wp2
  go_ret
  exact ⟨rfl, hb14.trans (hb5.mono hb14.size)⟩

set_option maxHeartbeats 2000000 in
theorem decimal_pos_big (i q r : Int) (w : World) (h0 : -9223372036854775808 ≤ i) (h1 : i ≤ 9223372036854775807) (htab : Lib.TabIs Tryd.prog w powName .u64 Lib.pow10Tab)
    (hi : 0 ≤ i) (hq : i.tdiv 10 = q) (hr : i.tmod 10 = r) (hq2 : i / 10 = q) (hr2 : i % 10 = r) (q0 : 0 < q) (q1 : q ≤ 922337203685477580) (r0 : 0 ≤ r) (r1 : r ≤ 9) (hs : Lib.itoa i = Lib.itoa q ++ [lastDigit r]) :
    Calls Tryd.prog 3 #[.int .i64 i] w fun e w' => e = .returned (.bool true) ∧ Below w.heap.size w w' := by
  have HT : Hid (Lib.TabBelow Tryd.prog w.heap.size w powName .u64 Lib.pow10Tab) := Lib.tabBelow_of_tabIs htab
  have hcv := fun X => conv_one X (48 + r) (lastDigit r) (by rw [lastDigit_nat r (by omega)]; omega)
  have qn : (q != 0) = true := by rw [bne_iff_ne]; omega
  have HS : Hid (numStr i = numStr q ++ ⟨#[lastDigit r]⟩) := by
    show numStr i = _
    apply ByteArray.ext
    apply Array.toList_inj.1
    show Lib.itoa i = _
    rw [hs]
    simp [numStr]
  have hlen : (numStr q).size ≤ 21 := by
    have := Lib.itoa_length_le q (by omega) (by omega)
    show (Lib.itoa q).toArray.size ≤ 21
    simpa using this
  clear htab hs
  go_enter Tryd.func3, Tryd.ntmps3
  go_wp2_with fail
  refine (new_any 1 i _ _).mono ?_
  rintro e w1 ⟨rfl, hb1⟩
  go_wp2_with fail
  refine (string_int i _ _ h0 h1 (HT.out _ hb1)).mono ?_
  rintro e w2 ⟨rfl, hb2⟩
  have hb12 := hb1.trans (hb2.mono hb1.size)
  go_wp2_with fail
  refine (parse_any i _ h0 h1).mono ?_
  rintro e w3 ⟨rfl, rfl⟩
  go_wp2_with fail
  have hb13 := hb12.alloc hb12.size (.cells #[.int .u8 (48 + r)] 5)
  refine (new_any 1 q _ _).mono ?_
  rintro e w4 ⟨rfl, hb4⟩
  have hb14 := hb13.trans (hb4.mono hb13.size)
  go_wp2_with fail
  refine (string_int q _ _ (by omega) (by omega) (HT.out _ hb14)).mono ?_
  rintro e w5 ⟨rfl, hb5⟩
  have hs := HS.out
  go_wp2
  go_ret
  exact ⟨rfl, hb14.trans (hb5.mono hb14.size)⟩

set_option maxHeartbeats 2000000 in
theorem decimal_neg_small (i r : Int) (w : World) (h0 : -9223372036854775808 ≤ i) (h1 : i ≤ 9223372036854775807) (htab : Lib.TabIs Tryd.prog w powName .u64 Lib.pow10Tab)
    (hi : i < 0) (hq : i.tdiv 10 = 0) (hr : i.tmod 10 = r) (r0 : -9 ≤ r) (r1 : r < 0) (hs : Lib.itoa i = [45, lastDigit r]) :
    Calls Tryd.prog 3 #[.int .i64 i] w fun e w' => e = .returned (.bool true) ∧ Below w.heap.size w w' := by
  have HT : Hid (Lib.TabBelow Tryd.prog w.heap.size w powName .u64 Lib.pow10Tab) := Lib.tabBelow_of_tabIs htab
  have hcv := fun X => conv_one X (48 + -r) (lastDigit r) (by rw [lastDigit_nat r (by omega)]; omega)
  have HS : Hid (numStr i = (⟨#[45]⟩ : ByteArray) ++ ⟨#[lastDigit r]⟩) := by
    show numStr i = _
    apply ByteArray.ext
    apply Array.toList_inj.1
    show Lib.itoa i = _
    rw [hs]
    simp
  clear htab hs
  go_enter Tryd.func3, Tryd.ntmps3
  go_wp2_with fail
  refine (new_any 1 i _ _).mono ?_
  rintro e w1 ⟨rfl, hb1⟩
  go_wp2_with fail
  refine (string_int i _ _ h0 h1 (HT.out _ hb1)).mono ?_
  rintro e w2 ⟨rfl, hb2⟩
  have hb12 := hb1.trans (hb2.mono hb1.size)
  go_wp2_with fail
  refine (parse_any i _ h0 h1).mono ?_
  rintro e w3 ⟨rfl, rfl⟩
  have hs := HS.out
  go_wp2
  go_ret
  exact ⟨rfl, hb12.alloc hb12.size _⟩

set_option maxHeartbeats 2000000 in
theorem decimal_pos_small (i r : Int) (w : World) (h0 : -9223372036854775808 ≤ i) (h1 : i ≤ 9223372036854775807) (htab : Lib.TabIs Tryd.prog w powName .u64 Lib.pow10Tab)
    (hi : 0 ≤ i) (hq : i.tdiv 10 = 0) (hr : i.tmod 10 = r) (hq2 : i / 10 = 0) (hr2 : i % 10 = r) (r0 : 0 ≤ r) (r1 : r ≤ 9) (hs : Lib.itoa i = [lastDigit r]) :
    Calls Tryd.prog 3 #[.int .i64 i] w fun e w' => e = .returned (.bool true) ∧ Below w.heap.size w w' := by
  have HT : Hid (Lib.TabBelow Tryd.prog w.heap.size w powName .u64 Lib.pow10Tab) := Lib.tabBelow_of_tabIs htab
  have hcv := fun X => conv_one X (48 + r) (lastDigit r) (by rw [lastDigit_nat r (by omega)]; omega)
  have HS : Hid ((numStr i).toList = [lastDigit r]) := by
    show (numStr i).toList = _
    rw [ByteArray.toList_eq]
    exact hs
  clear htab hs
  go_enter Tryd.func3, Tryd.ntmps3
  go_wp2_with fail
  refine (new_any 1 i _ _).mono ?_
  rintro e w1 ⟨rfl, hb1⟩
  go_wp2_with fail
  refine (string_int i _ _ h0 h1 (HT.out _ hb1)).mono ?_
  rintro e w2 ⟨rfl, hb2⟩
  have hb12 := hb1.trans (hb2.mono hb1.size)
  go_wp2_with fail
  refine (parse_any i _ h0 h1).mono ?_
  rintro e w3 ⟨rfl, rfl⟩
  have hs := HS.out
  go_wp2
  go_ret
  exact ⟨rfl, hb12.alloc hb12.size _⟩

theorem decimal_any (i : Int) (w : World) (h0 : -9223372036854775808 ≤ i) (h1 : i ≤ 9223372036854775807) (htab : Lib.TabIs Tryd.prog w powName .u64 Lib.pow10Tab) :
    Calls Tryd.prog 3 #[.int .i64 i] w fun e w' => e = .returned (.bool true) ∧ Below w.heap.size w w' := by
  obtain ⟨hsum, hp, hn⟩ := parts i
  obtain ⟨q, hq⟩ : ∃ q, i.tdiv 10 = q := ⟨_, rfl⟩
  obtain ⟨r, hr⟩ : ∃ r, i.tmod 10 = r := ⟨_, rfl⟩
  rw [hq, hr] at hsum hp hn
  by_cases q0 : q = 0
  · subst q0
    have hs := split_small i r (by omega) (fun h => (hp h).2.2.1) (fun h => (hn h).2.1)
    by_cases hi : i < 0
    · rw [if_pos hi] at hs
      exact decimal_neg_small i r w h0 h1 htab hi hq hr (hn hi).2.1 (by omega) hs
    · rw [if_neg hi] at hs
      have := hp (by omega)
      exact decimal_pos_small i r w h0 h1 htab (by omega) hq hr this.2.2.2.1 this.2.2.2.2 this.2.1 this.2.2.1 hs
  · have hs := split_big i q r hsum (fun h => ⟨(hp h).1, (hp h).2.1, (hp h).2.2.1⟩) hn q0
    by_cases hi : i < 0
    · have := hn hi
      by_cases hr0 : r < 0
      · exact decimal_neg_big i q r w h0 h1 htab hi hq hr (by omega) (by omega) (by omega) hr0 hs
      · exact decimal_neg_round i q r w h0 h1 htab hi hq hr (by omega) (by omega) (by omega) (by omega) hs
    · have := hp (by omega)
      exact decimal_pos_big i q r w h0 h1 htab (by omega) hq hr this.2.2.2.1 this.2.2.2.2 (by omega) (by omega) this.2.1 this.2.2.1 hs

end Go.Proofs.Qxb6628169aDoor
