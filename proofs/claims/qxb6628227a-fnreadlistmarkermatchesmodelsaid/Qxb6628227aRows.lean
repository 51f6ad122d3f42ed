/-
  No cell of these rows narrows 'for every input' (looked for: loops, veiled, ifaces, maps, wideKeys, modest, calm, conditions, laid).
  DERIVED. THE GIVEN ROWS OF THIS SEAT. 2 by the template 'for every input the law returns true; each argument reads behind the call as it read before'; 0 by the template 'total and deterministic' (their statements: Qxb6628227aTotals.lean).
  GIVEN WITH THE SEED: the statements are not yours to turn. If you find one false, say at which input.
  Laid BY PROGRAM, IN A SANDBOX (cutbox-rows.mjs): the forced cells as the released guide's own fill.sh prints them over the translation 340c60d8113220dd… (all of the seat's roots in one cut). By AI agents, Wed Nov 11 2026. No macro, syntax, notation, axiom, sorry.
-/
import Derived.Test.Qxb6628227aChecked
import GoSem.Claim
import GoSem.ClaimJoined
import GoSem.ClaimMapViews
import Derived.JoinedTies
import Derived.KernelRfl
namespace Go.Proofs.Qxb6628227a
/- THE CELL 'sum', in the pinned program and in every row, IS THE sha256 OF THE DUMP (.gsa) THAT Qxb6628227aProg.lean LOADS. Nothing in Lean hashes anything: it is a label: what it is worth is what the hold of that sum in a sandbox is worth. -/
noncomputable def Try.pinned : Pinned := { name := "qxb6628227a", sum := "340c60d8113220dd099bc6b399d52b35348f2e41c1ea2a09e408e258e993c36b", checked := Try.checked }
namespace Rows
def none {H : Type} : Left H := { results := [], args := [] }

/-- 'zzlaws_internal_markdown_b1.FnReadListMarkerMatchesModel': WHATEVER THE INPUT: true; the input reads as it did. -/
def fnReadListMarkerMatchesModelSpec : ChangeSpec := { name := "fnReadListMarkerMatchesModel", fn := fun _ => fun
  | [d1, d2] => { results := [.lit (.bool true)], args := [d1, d2] }
  | _ => none }
def fnReadListMarkerMatchesModelRow : OpenClaim := { program := "qxb6628227a", sum := "340c60d8113220dd099bc6b399d52b35348f2e41c1ea2a09e408e258e993c36b", func := "example.com/inkcap/inkcap/zzlaws_internal_markdown_b1.FnReadListMarkerMatchesModel", spec := "fnReadListMarkerMatchesModel", apart := false }
def FnReadListMarkerMatchesModelSaid : Prop := fnReadListMarkerMatchesModelRow.holds Try.pinned (OpenSpec.ofChange fnReadListMarkerMatchesModelSpec)

/-- ITS FALSE NEIGHBOUR: 'it returns false'. Refute it at one input. -/
def fnReadListMarkerMatchesModelWrong : ChangeSpec := { name := "fnReadListMarkerMatchesModel", fn := fun _ => fun
  | [d1, d2] => { results := [.lit (.bool false)], args := [d1, d2] }
  | _ => none }
def FnReadListMarkerMatchesModelWrongFalsely : Prop := fnReadListMarkerMatchesModelRow.holds Try.pinned (OpenSpec.ofChange fnReadListMarkerMatchesModelWrong)

/-- 'zzlaws_internal_markdown_b1.FnReadListMarkerLeadingSpaceIsOneColumn': WHATEVER THE INPUT: true; the input reads as it did. -/
def fnReadListMarkerLeadingSpaceIsOneColumnSpec : ChangeSpec := { name := "fnReadListMarkerLeadingSpaceIsOneColumn", fn := fun _ => fun
  | [d1, d2] => { results := [.lit (.bool true)], args := [d1, d2] }
  | _ => none }
def fnReadListMarkerLeadingSpaceIsOneColumnRow : OpenClaim := { program := "qxb6628227a", sum := "340c60d8113220dd099bc6b399d52b35348f2e41c1ea2a09e408e258e993c36b", func := "example.com/inkcap/inkcap/zzlaws_internal_markdown_b1.FnReadListMarkerLeadingSpaceIsOneColumn", spec := "fnReadListMarkerLeadingSpaceIsOneColumn", apart := false }
def FnReadListMarkerLeadingSpaceIsOneColumnSaid : Prop := fnReadListMarkerLeadingSpaceIsOneColumnRow.holds Try.pinned (OpenSpec.ofChange fnReadListMarkerLeadingSpaceIsOneColumnSpec)

/-- ITS FALSE NEIGHBOUR: 'it returns false'. Refute it at one input. -/
def fnReadListMarkerLeadingSpaceIsOneColumnWrong : ChangeSpec := { name := "fnReadListMarkerLeadingSpaceIsOneColumn", fn := fun _ => fun
  | [d1, d2] => { results := [.lit (.bool false)], args := [d1, d2] }
  | _ => none }
def FnReadListMarkerLeadingSpaceIsOneColumnWrongFalsely : Prop := fnReadListMarkerLeadingSpaceIsOneColumnRow.holds Try.pinned (OpenSpec.ofChange fnReadListMarkerLeadingSpaceIsOneColumnWrong)

end Rows
end Go.Proofs.Qxb6628227a
