/-
  A region that draws its order and holds a call whose callee makes memory of its own: one walk in the order of the text. The library's theorem on quiet regions, at the class of the worlds that are as w was below w's own size.
-/
import Derived.WalkKit
import Derived.Deep.QuietTactic
import Derived.BigQuiet
namespace Go.Proofs.Qxb6627019aFmt
open Go.RowKit

/-- A world behind w: what lay in w lies there as it lay. -/
structure Later (w : World) where
  val : World
  bel : Below w.heap.size w val

theorem Later.some (w : World) : Nonempty (Later w) := ⟨⟨w, Below.refl _ _⟩⟩

theorem wp_region_later {P : Program} {id : Nat} {Q : Exit → Act → World → Prop} {a : Act} {w : World} {l : List Oper} (hm : P.follows .mixedOrders = true) (hB : Region.lexB .any l.toArray = true)
    (h : wpQuiet P l.toArray (fun w' => ∃ n : Later w, w' = n.val) (fun a' => ∀ w', (∃ n : Later w, w' = n.val) → Q .normal a' w') l a) : (Code.region id l.toArray true).wp P Q a w :=
  wp_region_quiet (C := fun w' => ∃ n : Later w, w' = n.val) hm hB ⟨⟨_, (Below.refl _ w).drew⟩, rfl⟩ (by simpa using h)

theorem calls_later {P : Program} {f : FuncId} {args : Array Value} {w : World} {n : Later w} {v : Value}
    (h : Calls P f args n.val fun e w' => e = .returned v ∧ Below n.val.heap.size n.val w') : Calls P f args n.val fun e w'' => e = .returned v ∧ ∃ m : Later w, w'' = m.val :=
  h.mono fun _ w' ⟨he, hb⟩ => ⟨he, ⟨w', n.bel.trans (hb.mono n.bel.size)⟩, rfl⟩

end Go.Proofs.Qxb6627019aFmt
