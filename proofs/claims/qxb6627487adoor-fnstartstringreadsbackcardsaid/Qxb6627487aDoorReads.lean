/-
  zzParseStartText reads every Start's text back; the walk of FnStartStringReadsBack (3).
-/
import Derived.Test.Qxb6627487aDoorParse
namespace Go.Proofs.Qxb6627487aDoor
open Go.RowKit

theorem ext_mid (t : ByteArray) (A B C : List UInt8) (h : t.data.toList = A ++ B ++ C) : t.extract A.length (A.length + B.length) = ⟨B.toArray⟩ := by
  apply ByteArray.ext
  apply Array.toList_inj.1
  rw [ByteArray.data_extract, Array.toList_extract, h, List.extract, List.append_assoc, List.drop_left, Nat.add_sub_cancel_left, List.take_left]

theorem size_of (t : ByteArray) (l : List UInt8) (h : t.data.toList = l) : t.size = l.length := by rw [← h]; simp

theorem get_of (t : ByteArray) (A : List UInt8) (c : UInt8) (C : List UInt8) (h : t.data.toList = A ++ c :: C) (hk : A.length < t.size) : t[A.length] = c := by
  have e : t.data.toList[A.length]'(by simpa using hk) = c := by
    rw [List.getElem_of_eq h, List.getElem_append_right (Nat.le_refl _)]
    simp
  exact e

/-- The five looks at a text that stands between "Start(" and ")". -/
theorem looks (t : ByteArray) (B : List UInt8) (h : t.data.toList = [83, 116, 97, 114, 116, 40] ++ B ++ [41]) :
    t.size = B.length + 7 ∧
    (∀ X, (Instr.slice 9 (.string t) none (some (.int .i64 6)) none).run Tryd.prog X = .ok (.string ⟨#[83, 116, 97, 114, 116, 40]⟩) X) ∧
    (∀ X, (Instr.index 9 (.string t) (.int .i64 ((t.size : Int) - 1))).run Tryd.prog X = .ok (.int .u8 41) X) ∧
    (∀ X, (Instr.slice 9 (.string t) (some (.int .i64 6)) (some (.int .i64 ((t.size : Int) - 1))) none).run Tryd.prog X = .ok (.string ⟨B.toArray⟩) X) := by
  have hz : t.size = B.length + 7 := by rw [size_of t _ h]; simp
  refine ⟨hz, fun X => ?_, fun X => ?_, fun X => ?_⟩
  · rw [run_slice_string_h X 9 t Tryd.underlying9 .i64 6 (by omega) (by omega)]
    have := ext_mid t [] [83, 116, 97, 114, 116, 40] (B ++ [41]) (by rw [h]; simp)
    simp only [List.length_nil, Nat.zero_add] at this
    rw [show (6 : Int).toNat = [(83 : UInt8), 116, 97, 114, 116, 40].length by rfl, this]
  · rw [run_index_string X 9 t .i64 _ Tryd.underlying9, dif_pos (by omega)]
    have := get_of t ([83, 116, 97, 114, 116, 40] ++ B) 41 [] h (by simp; omega)
    have e : ((t.size : Int) - 1).toNat = ([83, 116, 97, 114, 116, 40] ++ B).length := by simp; omega
    have e2 : t[((t.size : Int) - 1).toNat]'(by omega) = 41 := by
      simp only [e]
      exact this
    rw [e2]; rfl
  · rw [run_slice_string X 9 t .i64 .i64 6 _ Tryd.underlying9 (by omega) (by omega) (by omega)]
    have := ext_mid t [83, 116, 97, 114, 116, 40] B [41] h
    rw [show (6 : Int).toNat = [(83 : UInt8), 116, 97, 114, 116, 40].length by rfl, show ((t.size : Int) - 1).toNat = [(83 : UInt8), 116, 97, 114, 116, 40].length + B.length by simp; omega, this]

set_option maxHeartbeats 400000 in
theorem parse_any (s : Int) (w : World) (h0 : -9223372036854775808 ≤ s) (h1 : s ≤ 9223372036854775807) :
    Calls Tryd.prog 6 #[.string (startStr s)] w fun e w' => e = .returned (.tuple #[.int .i64 s, .bool true]) ∧ w' = w := by
  obtain ⟨c1, c2, c3, n1, n2, n3, hc⟩ := names s
  by_cases hs : s = 0 ∨ s = 1 ∨ s = 2
  · have hc' : (s = 0 ∧ c1 = true ∧ c2 = false ∧ c3 = false) ∨ (s = 1 ∧ c1 = false ∧ c2 = true ∧ c3 = false) ∨ (s = 2 ∧ c1 = false ∧ c2 = false ∧ c3 = true) := by
      rcases hc with h | h | h | h
      · exact .inl h
      · exact .inr (.inl h)
      · exact .inr (.inr h)
      · exfalso; rcases h.1 with h' | h' <;> omega
    clear hc hs
    rcases hc' with ⟨rfl, rfl, rfl, rfl⟩ | ⟨rfl, rfl, rfl, rfl⟩ | ⟨rfl, rfl, rfl, rfl⟩
    all_goals
      go_enter Tryd.func6, Tryd.ntmps6
      go_wp2
      go_ret2
      exact ⟨rfl, rfl⟩
  · have hout : (s < 0 ∨ 2 < s) ∧ c1 = false ∧ c2 = false ∧ c3 = false := by
      rcases hc with h | h | h | h
      · exact absurd (.inl h.1) hs
      · exact absurd (.inr (.inl h.1)) hs
      · exact absurd (.inr (.inr h.1)) hs
      · exact ⟨by omega, h.2⟩
    obtain ⟨hr, rfl, rfl, rfl⟩ := hout
    have hl : (startStr s).data.toList = [83, 116, 97, 114, 116, 40] ++ Lib.itoa s ++ [41] := by
      show startList s = _
      unfold startList
      rw [if_neg (by omega), if_neg (by omega), if_neg (by omega)]
    obtain ⟨hz, hpre, hend, hbody⟩ := looks (startStr s) (Lib.itoa s) hl
    have hlen := Lib.itoa_length_le s h0 h1
    obtain ⟨u, hu⟩ : ∃ u : Nat, u = s.natAbs := ⟨_, rfl⟩
    have hd := digs u (by omega)
    have hp := (lead u (by omega)).1
    by_cases hneg : s < 0
    · have hi : Lib.itoa s = 45 :: Lib.decDigits u := by unfold Lib.itoa; rw [if_pos hneg, hu]
      have hb : (⟨(Lib.itoa s).toArray⟩ : ByteArray).data.toList = [] ++ 45 :: Lib.decDigits u := by rw [hi]; rfl
      have hbs : (⟨(Lib.itoa s).toArray⟩ : ByteArray).size = (Lib.decDigits u).length + 1 := by rw [size_of _ _ hb]; simp
      have hz8 : (Lib.itoa s).length = (Lib.decDigits u).length + 1 := by rw [hi]; simp
      have := parse_neg (startStr s) ⟨(Lib.itoa s).toArray⟩ ⟨(Lib.decDigits u).toArray⟩ u w (by omega) (by omega) (by omega) (by omega) hd n1 n2 n3 hpre hend hbody
        (fun X => by
          rw [run_index_string X 9 _ .i64 _ Tryd.underlying9, dif_pos (by omega)]
          have e2 : (⟨(Lib.itoa s).toArray⟩ : ByteArray)[(0 : Int).toNat]'(by simp only [Int.toNat_zero]; omega) = 45 := get_of _ [] 45 _ hb (by simp only [List.length_nil]; omega)
          rw [e2]; rfl)
        (fun X => by
          rw [run_slice_string_l X 9 _ Tryd.underlying9 .i64 1 (by omega) (by omega)]
          have := ext_mid ⟨(Lib.itoa s).toArray⟩ [45] (Lib.decDigits u) [] (by rw [hb]; simp)
          rw [show (1 : Int).toNat = [(45 : UInt8)].length by rfl, show (⟨(Lib.itoa s).toArray⟩ : ByteArray).size = [(45 : UInt8)].length + (Lib.decDigits u).length by rw [hbs]; simp; omega, this])
      rw [show -(u : Int) = s by omega] at this
      exact this
    · have hi : Lib.itoa s = Lib.decDigits u := by unfold Lib.itoa; rw [if_neg hneg, show s.toNat = u by omega]
      have hz8 : (Lib.itoa s).length = (Lib.decDigits u).length := by rw [hi]
      rw [hi] at hbody
      have := parse_pos (startStr s) ⟨(Lib.decDigits u).toArray⟩ u w (by omega) (by omega) (by omega) (by omega) hd n1 n2 n3 hpre hend hbody
      rw [show (u : Int) = s by omega] at this
      exact this

set_option maxHeartbeats 400000 in
theorem reads_any (s : Int) (w : World) (h0 : -9223372036854775808 ≤ s) (h1 : s ≤ 9223372036854775807) (htab : Lib.TabIs Tryd.prog w powName .u64 Lib.pow10Tab) :
    Calls Tryd.prog 3 #[.int .i64 s] w fun e w' => e = .returned (.bool true) ∧ Below w.heap.size w w' := by
  have HT : Hid (Lib.TabIs Tryd.prog w powName .u64 Lib.pow10Tab) := htab
  clear htab
  go_enter Tryd.func3, Tryd.ntmps3
  go_wp2_with fail
  refine (string_any s _ h0 h1 HT.out).mono ?_
  rintro e w1 ⟨rfl, hb1⟩
  go_wp2_with fail
  refine (parse_any s _ h0 h1).mono ?_
  rintro e w2 ⟨rfl, rfl⟩
  go_wp2
  go_ret
  exact ⟨rfl, hb1⟩

end Go.Proofs.Qxb6627487aDoor
