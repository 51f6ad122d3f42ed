/-
  The walk of zzItoa (9): the decimal numeral of every int.
-/
import Derived.Test.Qxb6627019aFmtLeaves
import Derived.Test.Qxb6627019aFmtNum
import Derived.Laws.IdiomStrings
namespace Go.Proofs.Qxb6627019aFmt
open Go.RowKit Go.Extern.Stop Go.Stop Go.Extern

theorem arrayLen31 : Tryf.prog.arrayLen 31 = 24 := by kernel_rfl
theorem under31 : Tryf.prog.underlying 31 = some (.array (Tryf.prog.arrayLen 31) (Tryf.prog.elem 31)) := by kernel_rfl
theorem size31 (X : World) : (sizeOf (Tryf.prog.elem 31)).run Tryf.prog X = .ok 1 X := by kernel_rfl

/-- buf[i:] of the array of 24 bytes. -/
theorem slice_tail (X : World) (b i : Nat) (l : Int) (hl : l = (i : Int)) (h : i < 24) :
    (Instr.sliceAt 31 (.pointer (some ⟨b, 0, none⟩)) (some (.int .i64 l)) none none).run Tryf.prog X = .ok (.slice (some ⟨b, i, none⟩) (24 - i) (24 - i)) X := by
  subst hl
  rw [run_sliceAt_array_l X 31 ⟨b, 0, none⟩ under31 .i64 (i : Int) (by omega) (by rw [arrayLen31]; omega), size31]
  simp only [Result.andThen, slicedAt, arrayLen31, Int.toNat_natCast]
  rw [if_neg (by omega)]
  simp [Addr.add]
  omega

/-- string(buf[i:]) where the cells from i on hold the bytes l. -/
theorem string_tail (w : World) (arr : Array Value) (i : Nat) (l : List UInt8) (hl : l.length = 24 - i)
    (hc : ∀ j (hj : j < l.length), arr[i + j]? = some (.int .u8 (l[j].toNat : Int))) :
    (convert 32 9 (.slice (some ⟨w.heap.size, i, none⟩) (24 - i) (24 - i))).run Tryf.prog (w.alloc (.cells arr 31)) = .ok (.string ⟨l.toArray⟩) (w.alloc (.cells arr 31)) := by
  have h := run_convert_bytes_back (P := Tryf.prog) (w.alloc (.cells arr 31)) 32 9 5 ⟨w.heap.size, i, none⟩ (24 - i) l Tryf.underlying32 Tryf.underlying5 Tryf.underlying9
    (fun j hj => by rw [Lib.add_plain, World.cell?_alloc_at _ _ _ _ rfl]; exact hc j hj)
  rw [hl] at h
  exact h

/-- What the loop's rounds hand on. -/
def Loop (w : World) (u0 : Nat) (t i : Value) (wr : World) : Prop :=
  ∃ (k : Nat) (u : Int) (arr : Array Value), k ≤ 20 ∧ 0 ≤ u ∧ u ≤ 9223372036854775808 ∧ t = .int .u64 u ∧ i = .int .i64 (24 - k) ∧ Hid (wr = w.alloc (.cells arr 31)) ∧ Hid (DigInv u0 k u arr)

theorem Loop.next {w : World} {u0 k : Nat} {u : Int} {arr : Array Value} (hk : k < 20) (h1 : 0 ≤ u) (h2 : u ≤ 9223372036854775808) (hst : DigInv u0 (k + 1) (u / 10) (arr.setIfInBounds (23 - k) (.int .u8 (48 + u % 10)))) :
    Loop w u0 (.int .u64 (u / 10)) (.int .i64 (24 - ↑k - 1)) (w.alloc (.cells (arr.setIfInBounds (24 - k - 1) (.int .u8 (48 + u % 10))) 31)) :=
  ⟨k + 1, u / 10, _, by omega, by omega, by omega, rfl, by go_num, rfl, by rw [show 24 - k - 1 = 23 - k by omega]; exact hst⟩

set_option maxHeartbeats 400000 in
theorem itoa_neg (n : Int) (w : World) (h0 : -9223372036854775808 ≤ n) (h1 : n < 0) :
    Calls Tryf.prog 9 #[.int .i64 n] w fun e w' => e = .returned (.string ⟨(Lib.itoa n).toArray⟩) ∧ Below w.heap.size w w' := by
  have hz : (-(n + 1) + 1 == 0) = false := by rw [beq_eq_false_iff_ne]; omega
  obtain ⟨u0, hu0⟩ : ∃ u0 : Nat, u0 = n.natAbs := ⟨_, rfl⟩
  have H0 : Hid (u0 = n.natAbs) := hu0
  have hpos : 1 ≤ u0 := by omega
  have hlim : Hid (u0 < 10 ^ 20) := by show u0 < 10 ^ 20; omega
  clear hu0
  go_enter Tryf.func9, Tryf.ntmps9
  go_wp2
  go_loopw [4, 6] (fun t i wr => Loop w u0 t i wr) (fun t _ _ => (intOf t).toNat)
  case atStart =>
    have := H0.out
    refine ⟨0, -(n + 1) + 1, _, by omega, by omega, by omega, rfl, by go_num, rfl, ?_⟩
    have e : -(n + 1) + 1 = (u0 : Int) := by omega
    rw [e]
    exact DigInv.start u0 _ rfl
  case round =>
    obtain ⟨k, u, arr, hk, hu1, hu2, rfl, rfl, hwr, hd⟩ := hrel
    have hwr' := hwr.out
    subst hwr'
    by_cases hlt : 0 < u
    · have hk' := hd.out.lt hlt hlim.out
      have hst : Hid _ := hd.out.step hlt hlim.out
      obtain ⟨v0, hv0⟩ : ∃ v, arr[24 - k - 1]? = some v := ⟨_, Array.getElem?_eq_getElem (by rw [hd.out.1]; omega)⟩
      go_wp2
      exact ⟨Loop.next hk' hu1 hu2 hst.out, by simp [intOf]; omega⟩
    · obtain rfl : u = 0 := by omega
      obtain ⟨hlen, hk1, hcells⟩ := hd.out.done rfl hpos
      obtain ⟨v0, hv0⟩ : ∃ v, arr[24 - k - 1]? = some v := ⟨_, Array.getElem?_eq_getElem (by rw [hd.out.1]; omega)⟩
      have hsl := fun X => slice_tail X w.heap.size (24 - k - 1) (24 - (k : Int) - 1) (by omega) (by omega)
      have e45 : Lib.itoa n = 45 :: Lib.decDigits u0 := by
        have := H0.out
        unfold Lib.itoa; rw [if_pos h1, this]
      have hcv := string_tail w (arr.setIfInBounds (24 - k - 1) (.int .u8 45)) (24 - k - 1) (Lib.itoa n) (by rw [e45]; simp; omega) (fun j hj => by
        rw [Array.getElem?_setIfInBounds]
        have hl : (Lib.itoa n).length = (Lib.decDigits u0).length + 1 := by rw [e45]; simp
        rcases j with _ | j
        · have : (Lib.itoa n)[0] = 45 := by simp [e45]
          rw [if_pos (by omega), if_pos (by rw [hd.out.1]; omega), this]; rfl
        · have : (Lib.itoa n)[j + 1] = (Lib.decDigits u0)[j] := by simp [e45]
          rw [if_neg (by omega), this, show 24 - k - 1 + (j + 1) = 24 - k + j by omega]
          exact hcells j (by omega))
      clear hlen hcells e45
      go_wp2
      go_ret
      exact ⟨rfl, (Below.refl _ _).alloc (Nat.le_refl _) _⟩

set_option maxHeartbeats 400000 in
theorem itoa_pos (n : Int) (w : World) (h0 : n ≤ 9223372036854775807) (h1 : 0 < n) :
    Calls Tryf.prog 9 #[.int .i64 n] w fun e w' => e = .returned (.string ⟨(Lib.itoa n).toArray⟩) ∧ Below w.heap.size w w' := by
  have hz : (n == 0) = false := by rw [beq_eq_false_iff_ne]; omega
  obtain ⟨u0, hu0⟩ : ∃ u0 : Nat, u0 = n.natAbs := ⟨_, rfl⟩
  have H0 : Hid (u0 = n.natAbs) := hu0
  have hpos : 1 ≤ u0 := by omega
  have hlim : Hid (u0 < 10 ^ 20) := by show u0 < 10 ^ 20; omega
  clear hu0
  go_enter Tryf.func9, Tryf.ntmps9
  go_wp2
  go_loopw [4, 6] (fun t i wr => Loop w u0 t i wr) (fun t _ _ => (intOf t).toNat)
  case atStart =>
    have := H0.out
    refine ⟨0, n, _, by omega, by omega, by omega, rfl, by go_num, rfl, ?_⟩
    have e : n = (u0 : Int) := by omega
    rw [e]
    exact DigInv.start u0 _ rfl
  case round =>
    obtain ⟨k, u, arr, hk, hu1, hu2, rfl, rfl, hwr, hd⟩ := hrel
    have hwr' := hwr.out
    subst hwr'
    by_cases hlt : 0 < u
    · have hk' := hd.out.lt hlt hlim.out
      have hst : Hid _ := hd.out.step hlt hlim.out
      obtain ⟨v0, hv0⟩ : ∃ v, arr[24 - k - 1]? = some v := ⟨_, Array.getElem?_eq_getElem (by rw [hd.out.1]; omega)⟩
      go_wp2
      exact ⟨Loop.next hk' hu1 hu2 hst.out, by simp [intOf]; omega⟩
    · obtain rfl : u = 0 := by omega
      obtain ⟨hlen, hk1, hcells⟩ := hd.out.done rfl hpos
      have hsl := fun X => slice_tail X w.heap.size (24 - k) (24 - (k : Int)) (by omega) (by omega)
      have e45 : Lib.itoa n = Lib.decDigits u0 := by
        have := H0.out
        unfold Lib.itoa; rw [if_neg (by omega), show n.toNat = u0 by omega]
      have hcv := string_tail w arr (24 - k) (Lib.itoa n) (by rw [e45]; omega) (fun j hj => by
        have : (Lib.itoa n)[j] = (Lib.decDigits u0)[j]'(by rw [← e45]; exact hj) := by simp [e45]
        rw [this]
        exact hcells j (by rw [← e45]; exact hj))
      clear hlen hcells e45
      go_wp2
      go_ret
      exact ⟨rfl, (Below.refl _ _).alloc (Nat.le_refl _) _⟩

set_option maxHeartbeats 400000 in
theorem itoa_any (n : Int) (w : World) (h0 : -9223372036854775808 ≤ n) (h1 : n ≤ 9223372036854775807) :
    Calls Tryf.prog 9 #[.int .i64 n] w fun e w' => e = .returned (.string ⟨(Lib.itoa n).toArray⟩) ∧ Below w.heap.size w w' := by
  rcases Int.lt_trichotomy n 0 with h | h | h
  · exact itoa_neg n w h0 h
  · subst h
    have hi : Hid ((⟨(Lib.itoa 0).toArray⟩ : ByteArray) = ⟨#[48]⟩) := by
      show (⟨(Lib.itoa 0).toArray⟩ : ByteArray) = ⟨#[48]⟩
      rw [show Lib.itoa 0 = [48] by rw [show (0 : Int) = ((0 : Nat) : Int) by rfl, Lib.itoa_nonneg, Lib.decDigits_one (by omega)]; rfl]
    go_enter Tryf.func9, Tryf.ntmps9
    go_wp2
    go_ret
    exact ⟨by rw [hi.out]; rfl, Below.refl _ _⟩
  · exact itoa_pos n w h1 h

end Go.Proofs.Qxb6627019aFmt
