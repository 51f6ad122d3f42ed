/-
  The copy that the laws make first: make, then copy; and the readers at a nil slice.
-/
import Derived.Test.Qxb6628227aRead5
import Derived.Laws.CopyRow
import Derived.Laws.CopyOwn
import Derived.Laws.MakeOwn
namespace Go.Proofs.Qxb6628227a
open Go.RowKit
set_option linter.unusedVariables false

/-- The cells of a slice of bytes that came in. -/
def Src (w : World) (x : Addr) (n : Nat) (z : Nat → Int) : Prop := ∀ j, j < n → w.cell? (x.add j) = some (.int .u8 (z j))

theorem info5 : ∃ i, Try.prog.info? 5 = some i ∧ i.zero = some (.int .u8 0) ∧ i.bytes = 1 ∧ i.size = 1 := by
  have h : (Try.prog.info? 5).map (fun i => (i.zero, i.bytes, i.size)) = some (some (.int .u8 0), 1, 1) := by kernel_rfl
  obtain ⟨i, h1, h2⟩ := Option.map_eq_some_iff.1 h
  simp only [Prod.mk.injEq] at h2
  exact ⟨i, h1, h2.1, h2.2.1, h2.2.2⟩

/-- make([]byte, c). -/
theorem make_run (c : Nat) (hc : c ≤ 2097152) (x : Int) (hx : x = (c : Int)) (w : World) :
    ∃ arr : Array Value, arr.size = c ∧ (Instr.makeSlice 22 (.int .i64 x) (.int .i64 x)).run Try.prog w = .ok (.slice (some ⟨w.heap.size, 0, none⟩) c c) (w.alloc (.cells arr 5)) := by
  subst hx
  obtain ⟨i, h1, h2, h3, h4⟩ := info5
  have h := run_make (P := Try.prog) w 22 5 i (.int .u8 0) Try.underlying22 h1 h2 .i64 .i64 c c (by omega) (by omega) (by rw [h3]; omega) (by omega)
  rw [h4, Int.toNat_natCast] at h
  exact ⟨_, by rw [size_madeCells]; omega, h⟩

theorem copied (x : Addr) (n cap : Nat) (z : Nat → Int) (w : World) (hn : n ≤ 1048576) (hs : Src w x n z) :
    ∃ w1 w2 : World, (Instr.makeSlice 22 (.int .i64 n) (.int .i64 n)).run Try.prog w = .ok (.slice (some ⟨w.heap.size, 0, none⟩) n n) w1 ∧
      (∀ ty, (Builtin.copy_ #[22, 22] ty #[.slice (some ⟨w.heap.size, 0, none⟩) n n, .slice (some x) n cap]).run Try.prog w1 = .ok (goInt n) w2) ∧
      Below w.heap.size w w2 ∧ Row w2 w.heap.size 0 n z := by
  obtain ⟨arr, ha, hmk⟩ := make_run n (by omega) n rfl w
  have hb1 : Below w.heap.size w (w.alloc (.cells arr 5)) := (Below.refl _ _).alloc (Nat.le_refl _) _
  have hg : (w.alloc (.cells arr 5)).heap[w.heap.size]? = some (.cells arr 5 (0, 0)) := by
    show (w.heap.push _)[w.heap.size]? = _
    simp
  have hlen : ((List.range n).map fun j => Value.int .u8 (z j)).length = n := by simp
  have hcp := fun ty => run_copy_row (P := Try.prog) (w.alloc (.cells arr 5)) 22 22 ty 5 w.heap.size 0 n n x n cap arr 5 ((List.range n).map fun j => Value.int .u8 (z j))
    Try.underlying22 (by kernel_rfl) hg (by simp) (fun j v hj => by
      have hj' : j < n := by have := (List.getElem?_eq_some_iff.1 hj).1; simpa using this
      have hv : v = .int .u8 (z j) := by simpa [hj'] using hj.symm
      rw [hv]
      exact cell_later hb1 (hs j hj')) (by rw [hlen, ha]; omega) (fun v hv => by
      obtain ⟨j, _, rfl⟩ := List.mem_map.1 hv
      rfl)
  rw [hlen] at hcp
  refine ⟨_, _, hmk, hcp, below_setRow hb1 (Nat.le_refl _) _, ?_, ?_⟩
  · show w.heap.size < ((w.alloc (.cells arr 5)).setRow w.heap.size _).heap.size
    simp [World.setRow]
  · intro j hj
    have hh := setRow_heap (w.alloc (.cells arr 5)) w.heap.size arr (arr.toList.take 0 ++ ((List.range n).map fun j => Value.int .u8 (z j)) ++ arr.toList.drop (0 + n)).toArray 5 (0, 0) hg
    have hd : arr.toList.drop (0 + n) = [] := by rw [List.drop_eq_nil_iff]; simp; omega
    rw [hd] at hh
    simp only [List.take_zero, List.nil_append, List.append_nil] at hh
    rw [hd]
    simp only [List.take_zero, List.nil_append, List.append_nil]
    simp only [World.cell?, hh]
    simp [hj]

set_option maxHeartbeats 400000 in
theorem indent_nil (col : Int) (w : World) : Calls Try.prog 15 #[.slice none 0 0, .int .i64 col] w fun e w' => e = .returned (.tuple #[.int .i64 0, .int .i64 0]) ∧ w' = w := by
  go_enter Try.func15, Try.ntmps15
  go_wp2
  go_loop [4, 5] (fun d i => d = .int .i64 0 ∧ i = .int .i64 0) (fun _ _ => 0)
  case atStart => exact ⟨rfl, rfl⟩
  case round =>
    obtain ⟨rfl, rfl⟩ := hrel
    go_wp2
    go_ret2
    exact ⟨rfl, rfl⟩

set_option maxRecDepth 100000 in
set_option maxHeartbeats 1000000 in
theorem read_nil (col : Int) (w : World) : Calls Try.prog 14 #[.slice none 0 0, .int .i64 col] w fun e w' => e = .returned (ansV no) ∧ Below w.heap.size w w' := by
  go_enter Try.func14, Try.ntmps14
  go_wp2_with fail
  refine (indent_nil col _).mono ?_
  rintro e w' ⟨rfl, rfl⟩
  go_wp2_with fail
  exact bodyPost_ret (v := .tuple #[.agg #[.int .i64 0, .int .i64 0, .int .u8 0, .int .i64 0, .bool false], .bool false]) (by simp [results, Try.results14, go_sem]) rfl ⟨rfl, (Below.refl _ _).alloc (Nat.le_refl _) _⟩

theorem zz_nil (col : Int) (w : World) : Calls Try.prog 7 #[.slice none 0 0, .int .i64 col] w fun e w' => e = .returned (sixV no) ∧ Below w.heap.size w w' := zz_of _ no col w (read_nil col w)

theorem zz_any (b n : Nat) (z : Nat → Int) (col : Int) (w : World) (hn : n ≤ 1048577) (hr : Row w b 0 n z) (hz : Rng z) (c0 : 0 ≤ col) (c1 : col ≤ 1073741825) :
    Calls Try.prog 7 #[.slice (some ⟨b, 0, none⟩) n n, .int .i64 col] w fun e w' => e = .returned (sixV (rlm z n col)) ∧ Below w.heap.size w w' :=
  zz_of _ _ col w (read_any b n z col w hn hr hz c0 c1)

end Go.Proofs.Qxb6628227a
