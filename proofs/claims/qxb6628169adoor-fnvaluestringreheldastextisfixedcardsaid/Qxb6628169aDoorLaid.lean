/-
  What the row's list of variables gives the walks: strconv's table of the powers of ten; and a start that meets it.
-/
import Derived.Test.Qxb6628169aDoorText
import Derived.ProofKit
import Derived.LaidMore
import Derived.OpenShut
import Derived.Stop.Joined
import Derived.ChangeOld
namespace Go.Proofs.Qxb6628169aDoor
open Go.ChangeShapes Go.WideShapes Go.ChangeAt Go.WideMaps Go.WideElems Go.RowKit

theorem own : ownKnob Tryd.prog.godebug = none := by kernel_rfl
theorem laidOut : laidOutB Tryd.prog = true := by kernel_rfl

def theLaid : List (String × DataW Unit) := Rows.fnValueStringIntegerIsCanonicalDecimalRow.laid

set_option maxRecDepth 100000 in
/-- The door's own heap meets the condition. -/
theorem door_met (os : Os) (args : Array Value) : laidMetH Tryd.prog theLaid ((World.doorLaid Tryd.prog 24 os).forCall (fun _ _ => 0) ⟨#[], args, []⟩).memory :=
  laidMetH_of_parts3 (fuel := 8) (laidMet_of_run' 8 (by kernel_rfl) (by kernel_rfl)) (by kernel_rfl) (by kernel_rfl)

theorem pow_datum : (Rows.laid_internal_strconv_uint64pow10 : DataW Unit) = Lib.tabData .u64 Lib.pow10Tab := by rfl

theorem tab_of_laid {W : World} (h : laidMetH Tryd.prog theLaid W) : Lib.TabIs Tryd.prog W powName .u64 Lib.pow10Tab := by
  rw [MakeChecks.laidMetH_plain _ _ _ (by kernel_rfl)] at h
  obtain ⟨ps, ⟨_, _, _, _, _, _, _, _, _, _, ⟨_, _, _, _, _, _, _, _, _, _, ⟨g, t, cs, fuel, p, q, hg, ht, hv, hd, _, _⟩, _⟩, _⟩, _, _⟩ := h
  have hg' : Tryd.prog.globalNamed powName = some 0 := by kernel_rfl
  have ht' : (Tryd.prog.globals[0]?).map (·.type) = some 42 := by kernel_rfl
  obtain rfl := Option.some.inj (hg'.symm.trans hg)
  obtain rfl := Option.some.inj (ht'.symm.trans ht)
  rw [pow_datum] at hd
  show W.var? Tryd.prog powName = _
  rw [← Lib.cells_of_tab Tryd.underlying42 Tryd.underlying33 (by kernel_rfl) (by kernel_rfl) hd]
  exact hv

end Go.Proofs.Qxb6628169aDoor
