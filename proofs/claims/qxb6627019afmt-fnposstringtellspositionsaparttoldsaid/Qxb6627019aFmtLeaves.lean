/-
  The walks of the leaf functions on the road: zzBytes (4), zzHasColon (5), Pos.String (6).
-/
import Derived.Test.Qxb6627019aFmtFacts
import Derived.WalkKit
import Derived.WalkSpells
namespace Go.Proofs.Qxb6627019aFmt
open Go.RowKit Go.Extern.Stop Go.Stop Go.Extern

set_option maxHeartbeats 400000 in
/-- zzBytes: some bool; nothing turns. -/
theorem bytes_any (p q : ByteArray) (a b : Int) (w : World) (hp : p.size ≤ maxLen) (hq : q.size ≤ maxLen) :
    Calls Tryf.prog 4 #[.string p, .int .i64 a, .string q, .int .i64 b] w fun e w' => (∃ r : Bool, e = .returned (.bool r)) ∧ w' = w := by
  unfold maxLen at hp hq
  go_enter Tryf.func4, Tryf.ntmps4
  go_wp2
  all_goals
    go_ret
    exact ⟨⟨_, rfl⟩, rfl⟩

theorem ret_bool {a b : Bool} (h : a = b) : Ending.returned (.bool a) = .returned (.bool b) := by rw [h]

/-- Does the text hold a colon? -/
def colon (l : List UInt8) : Bool := l.contains 58

theorem colon_snoc (l : List UInt8) (c : UInt8) : colon (l ++ [c]) = (colon l || c == 58) := by
  unfold colon
  rw [Bool.eq_iff_iff]
  simp only [List.contains_iff_mem, List.mem_append, List.mem_singleton, Bool.or_eq_true, beq_iff_eq]
  constructor <;> (rintro (h | h); exact .inl h; exact .inr h.symm)

theorem take_snoc (s : ByteArray) (k : Nat) (h : k < s.size) : s.data.toList.take (k + 1) = s.data.toList.take k ++ [s[k]] := by
  rw [List.take_succ_eq_append_getElem (by simpa using h)]; rfl

theorem colon_of_take (l : List UInt8) (k : Nat) (h : colon (l.take k) = true) : colon l = true := by
  unfold colon at *
  rw [List.contains_iff_mem] at *
  exact List.mem_of_mem_take h

set_option maxHeartbeats 400000 in
/-- zzHasColon. -/
theorem hasColon_any (s : ByteArray) (w : World) (hs : s.size ≤ maxLen) :
    Calls Tryf.prog 5 #[.string s] w fun e w' => e = .returned (.bool (colon s.data.toList)) ∧ w' = w := by
  unfold maxLen at hs
  go_enter Tryf.func5, Tryf.ntmps5
  go_wp2
  go_loop [3] (fun i => ∃ k : Nat, k ≤ s.size ∧ i = .int .i64 k ∧ Hid (colon (s.data.toList.take k) = false)) (fun i => s.size - (intOf i).toNat)
  case atStart => exact ⟨0, Nat.zero_le _, rfl, rfl⟩
  case round =>
    obtain ⟨k, hk, rfl, hc⟩ := hrel
    by_cases hlt : k < s.size
    · have HS : Hid (colon (s.data.toList.take (k + 1)) = (colon (s.data.toList.take k) || s[k] == 58)) := by rw [take_snoc s k hlt]; exact colon_snoc _ _
      by_cases h58 : s[k].toNat = 58
      · have ht : ((s[k].toNat : Int) == 58) = true := by rw [h58]; rfl
        have HT : Hid (colon s.data.toList = true) := by
          refine colon_of_take _ (k + 1) ?_
          rw [HS.out]
          have : s[k] = 58 := UInt8.toNat_inj.1 h58
          simp [this]
        have h58' : Hid (s[k].toNat = 58) := h58
        clear h58
        go_wp2
        go_ret
        exact ⟨ret_bool HT.out.symm, rfl⟩
      · have ht : ((s[k].toNat : Int) == 58) = false := by rw [beq_eq_false_iff_ne]; omega
        have HT : Hid (colon (s.data.toList.take (k + 1)) = false) := by
          show colon _ = false
          rw [HS.out, hc.out]
          have : s[k] ≠ 58 := fun h => h58 (by rw [h]; rfl)
          simpa using this
        clear h58
        go_wp2
        go_round
        case rel => exact ⟨k + 1, by omega, by go_num, HT⟩
        case measure => simp [intOf]; omega
    · have HT : Hid (colon s.data.toList = false) := by
        have := hc.out
        rwa [List.take_of_length_le (by simp; omega)] at this
      go_wp2
      go_ret
      exact ⟨ret_bool HT.out.symm, rfl⟩

attribute [local go_sem] call8 guardFmt fmt2 fmt2r op3_100 op9_115

set_option maxHeartbeats 400000 in
/-- Pos.String where the line is 0: the path. -/
theorem pos_zero (p : ByteArray) (w : World) :
    Calls Tryf.prog 6 #[.agg #[.string p, .int .i64 0]] w fun e w' => e = .returned (.string p) ∧ Below w.heap.size w w' := by
  go_enter Tryf.func6, Tryf.ntmps6
  go_wp2
  go_ret
  exact ⟨rfl, (Below.refl _ _).alloc (Nat.le_refl _) _⟩

set_option maxHeartbeats 400000 in
/-- Pos.String elsewhere: what fmt is told to give. -/
theorem pos_line (F : Interp) (p : ByteArray) (n : Int) (w : World) (hF : F.answers w.tape) (hn : (n == 0) = false) :
    Calls Tryf.prog 6 #[.agg #[.string p, .int .i64 n]] w fun e w' => e = .returned (.string (FmtStop.textOf (F "fmt.Sprintf" (reading p.data.toList n) 0))) ∧ Below w.heap.size w w' := by
  have hF' := answers_open hF
  go_enter Tryf.func6, Tryf.ntmps6
  go_wp2
  go_ret
  exact ⟨rfl, (((Below.refl _ _).alloc (Nat.le_refl _) _).alloc (by simp) _).drew⟩

end Go.Proofs.Qxb6627019aFmt
