/- What an argument that can be read as data is, in the printer's kinds: integers, bools, strings, slices of readable elements, structs of readable fields. No conditions beyond those that each states. -/
import Derived.WalkKit
import Derived.ProofKit
import Derived.Deep.Slices
import Derived.Test.YtonmnpmklkbioaaDoorWWords
namespace Go.Proofs.YtonmnpmklkbioaaDoor.Rd
open Go.RowKit Go.Proofs.YtonmnpmklkbioaaDoorW.PrintWords
/-- Whatever reads as data of type t is cells of kind d, of something of which Q holds. -/
def Ok (P : Program) (t : TypeId) {α : Type} (d : Kd α) (Q : α → Prop) : Prop :=
  ∀ (H : Type) (enc : TypeId × Value → H) (w : World) (base : Nat) (spare : Nat → Bool) (held : Bool) (fuel : Nat) (cs : List Value) (x : DataW H × List MemPlace),
    DataW.trod enc P w base spare held fuel t cs = some x → ∃ y, d.K w y cs ∧ Q y
end Go.Proofs.YtonmnpmklkbioaaDoor.Rd
