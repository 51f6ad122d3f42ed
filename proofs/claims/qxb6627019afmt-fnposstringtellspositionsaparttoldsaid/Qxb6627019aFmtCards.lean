/-
  DERIVED. GIVEN WITH THE SEED: THE CARDS: each row of Qxb6627019aFmtRows.lean that lists a variable, with what it lists TIED to the program's text (the seventh form; the later family's looks); each row that meets fmt, with fmt's text TOLD by the authors' own Lean function (tested against real Go, not proved from fmt's source: count such statements apart). THE CARD IS WHAT COUNTS. Prove the row's statement (the work); the ties are given (Qxb6627019aFmtTie.lean); close each card by the builder's one call (the guide's Derived/Test/ToyasCard.lean, 'card_holds'). Laid BY PROGRAM, IN A SANDBOX (cutbox-door.mjs). By AI agents, Wed Nov 11 2026. No macro, syntax, notation, axiom, sorry.
-/
import Derived.Test.Qxb6627019aFmtRows
import GoSem.ClaimSeven
namespace Go.Proofs.Qxb6627019aFmt
namespace Rows

/-- THE TOLD CARD OF 'zzlaws_meeting_b1.FnPosStringTellsPositionsApart'. -/
def fnPosStringTellsPositionsApartCard : Claim7 := { stood := { row := fnPosStringTellsPositionsApartRow, standIns := [], harness := (true, "641ccb7a520e797f5f7816eff57f99c17fc9db8a2662ca4c29361a96fcca982c"), looks := false }, told := true, goes := false }
def FnPosStringTellsPositionsApartToldSaid : Prop := Claim7.holds Tryf.pinned (.plain (OpenSpec.ofChange fnPosStringTellsPositionsApartSpec)) fnPosStringTellsPositionsApartCard
/-- ITS FALSE NEIGHBOUR. Refute it at one input. -/
def FnPosStringTellsPositionsApartToldWrongFalsely : Prop := Claim7.holds Tryf.pinned (.plain (OpenSpec.ofChange fnPosStringTellsPositionsApartWrong)) fnPosStringTellsPositionsApartCard
end Rows
end Go.Proofs.Qxb6627019aFmt
