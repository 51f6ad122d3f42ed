/-
  The closed facts for the walk over fmt's stopped front at the one literal format of this program, "%s:%d" with two operands; and the text that fmt is told to give there. Turned from a worked example's facts to this program's numbers.
-/
import Derived.Test.Qxb6627019aFmtRows
import Derived.Stop.CallBack
import Derived.Stop.IfaceNil
import Derived.Stop.FmtTextKit
import GoSem.ClaimData
namespace Go.Proofs.Qxb6627019aFmt
open Go.Extern.Stop Go.Stop Go.Extern

/-- fmt.Sprintf: function 8: a plain stop. -/
theorem call8 (args : Array Value) (w : World) : (callFunc 8 args).run Tryf.prog w = ((FmtStop.sprintf #[9, 48] #[9] args).run Tryf.prog w).andThen fun v w' => .ok (.value v) w' :=
  run_callFunc_extern Tryf.func8 (by kernel_rfl) (by kernel_rfl) (by kernel_rfl) (by kernel_rfl) args w
theorem guardFmt (name : String) (w : World) : (FmtStop.guard name).run Tryf.prog w = .ok () w := by kernel_rfl
theorem fmt2 : FmtStop.printed? ⟨#[37, 115, 58, 37, 100]⟩ 2 = some [(0, 115, false), (1, 100, false)] := by kernel_rfl
theorem fmt2r (w : World) : (FmtDoors.printed ⟨#[37, 115, 58, 37, 100]⟩ 2).run Tryf.prog w = .ok [(0, 115, false), (1, 100, false)] w := by kernel_rfl
def shape3 : List UInt8 := [5, 3, 0, 0, 0, 0, 0, 0, 0, 105, 110, 116]
theorem op3_100 (name : String) (x : Int) (w : World) : (FmtStop.operand name false 100 false (.iface 3 (.int .i64 x))).run Tryf.prog w = .ok (shape3, Go.Extern.Stop.digits 8 (x % 2 ^ 64).toNat) w := by kernel_rfl
def shape9 : List UInt8 := [12, 6, 0, 0, 0, 0, 0, 0, 0, 115, 116, 114, 105, 110, 103]
theorem op9_115 (name : String) (x : ByteArray) (w : World) : (FmtStop.operand name false 115 false (.iface 9 (.string x))).run Tryf.prog w = .ok (shape9, FmtStop.pack x.data.toList) w := by kernel_rfl

/-- What fmt is asked. -/
def reading (nm : List UInt8) (n : Int) : List (List UInt8) :=
  [[37, 115, 58, 37, 100], shape9, FmtStop.pack nm, shape3, digits 8 (n % 18446744073709551616).toNat]

/-- The told text: the path, a colon, the decimal numeral of the line. -/
def posText (nm : List UInt8) (n : Int) : List UInt8 := nm ++ 58 :: Lib.itoa n

theorem parse0 : (FmtText.parse [37, 115, 58, 37, 100]).map FmtText.glue = some [.verb {} 115, .lit [58], .verb {} 100] := by rfl

theorem pos_text (nm : List UInt8) (n : Int) (hs : nm.length < 2 ^ 64) (hw : (Lit.int .i64 n).wf = true) : FmtText.text "fmt.Sprintf" (reading nm n) = some (posText nm n) := by
  have hi := FmtText.operand_int_at (sh := shape3) (k := .i64) rfl rfl n hw
  have hn := FmtText.operand_str_at (sh := shape9) rfl rfl nm hs
  rw [reading, FmtText.text_sprintf_glued parse0 (FmtText.operands_cons hn (FmtText.operands_cons hi FmtText.operands_nil))]
  simp [FmtText.render, FmtText.printArg_d _ _ hw, FmtText.printArg_s_str, posText]

end Go.Proofs.Qxb6627019aFmt
