/-
  modelListMarker (6) computes rlm.
-/
import Derived.Test.Qxb6628227aModel2
namespace Go.Proofs.Qxb6628227a
open Go.RowKit
set_option linter.unusedVariables false

theorem model_any (b n : Nat) (z : Nat → Int) (col : Int) (w : World) (hn : n ≤ 1048576) (hr : Row w b 0 n z) (hz : Rng z) (c0 : 0 ≤ col) (c1 : col ≤ 1073741825) :
    Calls Try.prog 6 #[.slice (some ⟨b, 0, none⟩) n n, .int .i64 col] w fun e w' => e = .returned (sixM (rlm z n col)) ∧ w' = w := by
  by_cases hd : 3 < wid z col (lead isInd z n) ∨ lead isInd z n = n
  · refine model_deep b n z col w hn hr hz c0 c1 ?_
    by_cases h : 3 < wid z col (lead isInd z n)
    · exact .inl h
    · exact .inr ⟨h, by omega⟩
  · cases hb : isBul (z (lead isInd z n))
    · exact model_dig b n z col w hn hr hz c0 c1 ⟨hd, hb⟩
    · exact model_bul b n z col w hn hr hz c0 c1 ⟨hd, hb⟩

set_option maxRecDepth 100000 in
set_option maxHeartbeats 1000000 in
theorem model_nil (col : Int) (w : World) (c0 : 0 ≤ col) (c1 : col ≤ 1073741825) : Calls Try.prog 6 #[.slice none 0 0, .int .i64 col] w fun e w' => e = .returned (sixM no) ∧ w' = w := by
  go_enter Try.func6, Try.ntmps6
  go_wp2_with fail
  go_loop [10, 11] (fun c p => c = .int .i64 col ∧ p = .int .i64 0) (fun _ _ => 0)
  case atStart => exact ⟨rfl, rfl⟩
  case round =>
    obtain ⟨rfl, rfl⟩ := hrel
    have h3 : ¬ 3 < col - col := by omega
    go_wp2_with fail
    exact bodyPost_ret (v := .tuple #[.int .i64 0, .int .i64 0, .int .u8 0, .int .i64 0, .bool false, .bool false]) (by simp [results, Try.results6, go_sem]) rfl ⟨rfl, rfl⟩

end Go.Proofs.Qxb6628227a
