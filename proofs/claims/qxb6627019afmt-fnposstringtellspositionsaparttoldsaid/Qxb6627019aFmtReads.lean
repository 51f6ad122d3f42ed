/-
  The walk of zzReadsBack (7) at the two texts that Pos.String gives.
-/
import Derived.Test.Qxb6627019aFmtItoa
import Derived.Test.Qxb6627019aFmtLater
import Derived.Outline
namespace Go.Proofs.Qxb6627019aFmt
open Go.RowKit Go.Extern.Stop Go.Stop Go.Extern

theorem colon_at {l : List UInt8} (h : colon l = false) (k : Nat) (hk : k < l.length) : l[k] ≠ 58 := by
  intro e
  have : colon l = true := by
    unfold colon
    rw [List.contains_iff_mem, ← e]
    exact List.getElem_mem hk
  rw [h] at this
  cases this

theorem byte_ne (s : ByteArray) (h : colon s.data.toList = false) (k : Nat) (hk : k < s.size) : ((s[k].toNat : Int) == 58) = false := by
  rw [beq_eq_false_iff_ne]
  intro e
  have h1 := colon_at h k (by simpa using hk)
  have e1 : s[k].toNat = 58 := by omega
  have e2 : s[k] = 58 := UInt8.toNat_inj.1 e1
  exact h1 e2

theorem extract_head (s p : ByteArray) (l : List UInt8) (h : s.data.toList = p.data.toList ++ l) : s.extract 0 p.size = p := by
  apply ByteArray.ext
  apply Array.toList_inj.1
  rw [ByteArray.data_extract, Array.toList_extract, h]
  simp [List.extract, ← ByteArray.size_data]

theorem extract_tail (s p : ByteArray) (c : UInt8) (l : List UInt8) (h : s.data.toList = p.data.toList ++ c :: l) : s.extract (p.size + 1) s.size = ⟨l.toArray⟩ := by
  apply ByteArray.ext
  apply Array.toList_inj.1
  have hz : s.size = p.size + (l.length + 1) := by
    have := congrArg List.length h
    simpa using this
  rw [ByteArray.data_extract, Array.toList_extract, h, hz]
  have e : p.data.toList ++ c :: l = (p.data.toList ++ [c]) ++ l := by simp
  rw [e, List.extract, List.drop_append_of_le_length (by simp), List.drop_of_length_le (by simp), List.nil_append, List.take_of_length_le (by omega)]

set_option maxHeartbeats 400000 in
theorem reads_zero (p : ByteArray) (w : World) (hp : p.size ≤ maxLen) (hc : colon p.data.toList = false) :
    Calls Tryf.prog 7 #[.string p, .string p, .int .i64 0] w fun e w' => e = .returned (.bool true) ∧ Below w.heap.size w w' := by
  unfold maxLen at hp
  have HC : Hid (colon p.data.toList = false) := hc
  clear hc
  go_enter Tryf.func7, Tryf.ntmps7
  go_wp2
  go_loop [7, 8] (fun a i => ∃ k : Nat, k ≤ p.size ∧ i = .int .i64 k ∧ a = .int .i64 (-1)) (fun _ i => p.size - (intOf i).toNat)
  case atStart => exact ⟨0, Nat.zero_le _, rfl, rfl⟩
  case round =>
    obtain ⟨k, hk, rfl, rfl⟩ := hrel
    by_cases hlt : k < p.size
    · have ht := byte_ne p HC.out k hlt
      go_wp2
      go_round
      case rel => exact ⟨k + 1, by omega, by go_num, rfl⟩
      case measure => simp [intOf]; omega
    · go_wp2
      go_ret
      exact ⟨rfl, Below.refl _ _⟩

set_option maxHeartbeats 400000 in
theorem reads_line (s p : ByteArray) (n : Int) (w : World) (hs : s.size ≤ maxLen) (hn : (n == 0) = false) (h0 : -9223372036854775808 ≤ n) (h1 : n ≤ 9223372036854775807)
    (hc : colon p.data.toList = false) (he : s.data.toList = p.data.toList ++ 58 :: Lib.itoa n) :
    Calls Tryf.prog 7 #[.string s, .string p, .int .i64 n] w fun e w' => e = .returned (.bool true) ∧ Below w.heap.size w w' := by
  unfold maxLen at hs
  have HC : Hid (colon p.data.toList = false) := hc
  have HE : Hid (s.data.toList = p.data.toList ++ 58 :: Lib.itoa n) := he
  have hsz : p.size < s.size := by
    have := congrArg List.length he
    simp at this
    omega
  clear hc he
  go_enter Tryf.func7, Tryf.ntmps7
  go_wp2
  go_loop [7, 8] (fun a i => ∃ k : Nat, k ≤ p.size ∧ i = .int .i64 k ∧ a = .int .i64 (-1)) (fun _ i => p.size - (intOf i).toNat)
  case atStart => exact ⟨0, Nat.zero_le _, rfl, rfl⟩
  case round =>
    obtain ⟨k, hk, rfl, rfl⟩ := hrel
    by_cases hlt : k < p.size
    · have hks : k < s.size := by omega
      have ht : ((s[k].toNat : Int) == 58) = false := by
        have e : s[k] = p[k] := by
          have h2 : s.data.toList[k]'(by simp; omega) = p.data.toList[k]'(by simp; omega) := by
            rw [List.getElem_of_eq HE.out, List.getElem_append_left]
          exact h2
        rw [e]
        exact byte_ne p HC.out k hlt
      go_wp2
      go_round
      case rel => exact ⟨k + 1, by omega, by go_num, rfl⟩
      case measure => simp [intOf]; omega
    · have hkp : Hid (k = p.size) := by show k = p.size; omega
      have hks : k < s.size := by omega
      have ht : ((s[k].toNat : Int) == 58) = true := by
        have e : s[k] = 58 := by
          have h2 : s.data.toList[k]'(by simp; omega) = 58 := by
            have := hkp.out
            rw [List.getElem_of_eq HE.out, List.getElem_append_right (by simp; omega)]
            simp [this]
          exact h2
        rw [e]; rfl
      have hsl1 : ∀ X, (Instr.slice 9 (.string s) none (some (.int .i64 k)) none).run Tryf.prog X = .ok (.string p) X := fun X => by
        rw [run_slice_string_h X 9 s Tryf.underlying9 .i64 _ (by omega) (by omega), Int.toNat_natCast, hkp.out, extract_head s p _ HE.out]
      have hsl2 : ∀ X, (Instr.slice 9 (.string s) (some (.int .i64 (k + 1))) none none).run Tryf.prog X = .ok (.string ⟨(Lib.itoa n).toArray⟩) X := fun X => by
        rw [run_slice_string_l X 9 s Tryf.underlying9 .i64 _ (by omega) (by omega), show ((k : Int) + 1).toNat = p.size + 1 by have := hkp.out; omega, extract_tail s p _ _ HE.out]
      clear hlt HC
      go_wp2_with fail
      clear ht
      haveI := Later.some w
      refine wp_region_later (by kernel_rfl) (by kernel_rfl) ?_
      repeat (go_big_quiet_step ((go_at_call 9; exact calls_later (itoa_any n _ h0 h1))))
      refine wpQuiet_nil ?_
      rintro _ ⟨m, rfl⟩
      go_wp2
      go_ret
      exact ⟨rfl, m.bel⟩

end Go.Proofs.Qxb6627019aFmt
