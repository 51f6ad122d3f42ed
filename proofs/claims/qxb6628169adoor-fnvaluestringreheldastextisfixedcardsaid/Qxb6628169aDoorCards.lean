/-
  DERIVED. GIVEN WITH THE SEED: THE CARDS: each row of Qxb6628169aDoorRows.lean that lists a variable, with what it lists TIED to the program's text (the seventh form; the later family's looks); each row that meets fmt, with fmt's text TOLD by the authors' own Lean function (tested against real Go, not proved from fmt's source: count such statements apart). THE CARD IS WHAT COUNTS. Prove the row's statement (the work); the ties are given (Qxb6628169aDoorTie.lean); close each card by the builder's one call (the guide's Derived/Test/ToyasCard.lean, 'card_holds'). Laid BY PROGRAM, IN A SANDBOX (cutbox-door.mjs). By AI agents, Wed Nov 11 2026. No macro, syntax, notation, axiom, sorry.
-/
import Derived.Test.Qxb6628169aDoorRows
import GoSem.ClaimSeven
namespace Go.Proofs.Qxb6628169aDoor
namespace Rows

/-- THE TIED CARD OF 'zzlaws_pkg_engine_b1.FnValueStringIntegerIsCanonicalDecimal'. -/
def fnValueStringIntegerIsCanonicalDecimalCard : Claim7 := { stood := { row := fnValueStringIntegerIsCanonicalDecimalRow, standIns := [], harness := (true, "4518a3940253d43c3fb01aec7f5659ba343702d21a72a57052d17e55e2a0df4f"), looks := false }, kinds := [], alts := [], laidByText := true, laidKinds := [.data, .data, .data], laidTests := true, laidLooks := .later }
def FnValueStringIntegerIsCanonicalDecimalCardSaid : Prop := Claim7.holds Tryd.pinned (.plain (OpenSpec.ofChange fnValueStringIntegerIsCanonicalDecimalSpec)) fnValueStringIntegerIsCanonicalDecimalCard

/-- THE TIED CARD OF 'zzlaws_pkg_engine_b1.FnValueStringReheldAsTextIsFixed'. -/
def fnValueStringReheldAsTextIsFixedCard : Claim7 := { stood := { row := fnValueStringReheldAsTextIsFixedRow, standIns := [], harness := (true, "4518a3940253d43c3fb01aec7f5659ba343702d21a72a57052d17e55e2a0df4f"), looks := false }, kinds := [], alts := [], laidByText := true, laidKinds := [.data, .data, .data], laidTests := true, laidLooks := .later }
def FnValueStringReheldAsTextIsFixedCardSaid : Prop := Claim7.holds Tryd.pinned (.plain (OpenSpec.ofChange fnValueStringReheldAsTextIsFixedSpec)) fnValueStringReheldAsTextIsFixedCard
end Rows
end Go.Proofs.Qxb6628169aDoor
