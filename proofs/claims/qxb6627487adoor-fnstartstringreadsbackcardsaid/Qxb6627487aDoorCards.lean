/-
  DERIVED. GIVEN WITH THE SEED: THE CARDS: each row of Qxb6627487aDoorRows.lean that lists a variable, with what it lists TIED to the program's text (the seventh form; the later family's looks); each row that meets fmt, with fmt's text TOLD by the authors' own Lean function (tested against real Go, not proved from fmt's source: count such statements apart). THE CARD IS WHAT COUNTS. Prove the row's statement (the work); the ties are given (Qxb6627487aDoorTie.lean); close each card by the builder's one call (the guide's Derived/Test/ToyasCard.lean, 'card_holds'). Laid BY PROGRAM, IN A SANDBOX (cutbox-door.mjs). By AI agents, Wed Nov 11 2026. No macro, syntax, notation, axiom, sorry.
-/
import Derived.Test.Qxb6627487aDoorRows
import GoSem.ClaimSeven
namespace Go.Proofs.Qxb6627487aDoor
namespace Rows

/-- THE TIED CARD OF 'zzlaws_pkg_keepalive_b1.FnStartStringReadsBack'. -/
def fnStartStringReadsBackCard : Claim7 := { stood := { row := fnStartStringReadsBackRow, standIns := [], harness := (true, "1129179eb30c1daa0b3020bb1a1ab266b166a6f09b6214a8b99ea1d79e9ffa07"), looks := false }, kinds := [], alts := [], laidByText := true, laidKinds := [.data, .data, .data], laidTests := true, laidLooks := .later }
def FnStartStringReadsBackCardSaid : Prop := Claim7.holds Tryd.pinned (.plain (OpenSpec.ofChange fnStartStringReadsBackSpec)) fnStartStringReadsBackCard

/-- THE TIED CARD OF 'zzlaws_pkg_keepalive_b1.FnStartStringDistinctAndNamedExactlyOnTheThree'. -/
def fnStartStringDistinctAndNamedExactlyOnTheThreeCard : Claim7 := { stood := { row := fnStartStringDistinctAndNamedExactlyOnTheThreeRow, standIns := [], harness := (true, "1129179eb30c1daa0b3020bb1a1ab266b166a6f09b6214a8b99ea1d79e9ffa07"), looks := false }, kinds := [], alts := [], laidByText := true, laidKinds := [.data, .data, .data], laidTests := true, laidLooks := .later }
def FnStartStringDistinctAndNamedExactlyOnTheThreeCardSaid : Prop := Claim7.holds Tryd.pinned (.plain (OpenSpec.ofChange fnStartStringDistinctAndNamedExactlyOnTheThreeSpec)) fnStartStringDistinctAndNamedExactlyOnTheThreeCard
end Rows
end Go.Proofs.Qxb6627487aDoor
