/-
  No cell of these rows narrows 'for every input' (looked for: loops, veiled, ifaces, maps, wideKeys, modest, calm, conditions, laid).
  DERIVED. THE GIVEN ROWS OF THIS SEAT. 1 by the template 'for every input the law returns true; each argument reads behind the call as it read before'; 0 by the template 'total and deterministic' (their statements: Qxb6627019aFmtTotals.lean).
  GIVEN WITH THE SEED: the statements are not yours to turn. If you find one false, say at which input.
  Laid BY PROGRAM, IN A SANDBOX (cutbox-rows.mjs): the forced cells as the released guide's own fill.sh prints them over the translation 518623207206a903… (all of the seat's roots in one cut). By AI agents, Wed Nov 11 2026. No macro, syntax, notation, axiom, sorry.
-/
import Derived.Test.Qxb6627019aFmtChecked
import GoSem.Claim
import GoSem.ClaimJoined
import GoSem.ClaimMapViews
import Derived.JoinedTies
import Derived.KernelRfl
namespace Go.Proofs.Qxb6627019aFmt
/- THE CELL 'sum', in the pinned program and in every row, IS THE sha256 OF THE DUMP (.gsa) THAT Qxb6627019aFmtProg.lean LOADS. Nothing in Lean hashes anything: it is a label: what it is worth is what the hold of that sum in a sandbox is worth. -/
noncomputable def Tryf.pinned : Pinned := { name := "qxb6627019afmt", sum := "518623207206a90328a7a27c675eda183b671263fb114d66e6a24a1ccf4a5691", checked := Tryf.checked }
namespace Rows
def none {H : Type} : Left H := { results := [], args := [] }

/-- 'zzlaws_meeting_b1.FnPosStringTellsPositionsApart': WHATEVER THE INPUT: true; the input reads as it did. -/
def fnPosStringTellsPositionsApartSpec : ChangeSpec := { name := "fnPosStringTellsPositionsApart", fn := fun _ => fun
  | [d1, d2, d3, d4] => { results := [.lit (.bool true)], args := [d1, d2, d3, d4] }
  | _ => none }
def fnPosStringTellsPositionsApartRow : OpenClaim := { program := "qxb6627019afmt", sum := "518623207206a90328a7a27c675eda183b671263fb114d66e6a24a1ccf4a5691", func := "example.com/tallyboard/tallyboard/zzlaws_meeting_b1.FnPosStringTellsPositionsApart", spec := "fnPosStringTellsPositionsApart", stops := ["fmt.Sprintf"], inPlace := ["fmt.Sprintf"], apart := false }
/-- NO THEOREM (fmt's text is open here; it may be false): for the released tool's asking of the row's closed facts alone. THE STATEMENT IS 'FnPosStringTellsPositionsApartToldSaid' (Qxb6627019aFmtCards.lean). -/
def FnPosStringTellsPositionsApartFormAsk : Prop := fnPosStringTellsPositionsApartRow.holds Tryf.pinned (OpenSpec.ofChange fnPosStringTellsPositionsApartSpec)

/-- ITS FALSE NEIGHBOUR: 'it returns false'. Refute it at one input. -/
def fnPosStringTellsPositionsApartWrong : ChangeSpec := { name := "fnPosStringTellsPositionsApart", fn := fun _ => fun
  | [d1, d2, d3, d4] => { results := [.lit (.bool false)], args := [d1, d2, d3, d4] }
  | _ => none }
def FnPosStringTellsPositionsApartWrongFormAsk : Prop := fnPosStringTellsPositionsApartRow.holds Tryf.pinned (OpenSpec.ofChange fnPosStringTellsPositionsApartWrong)

end Rows
end Go.Proofs.Qxb6627019aFmt
