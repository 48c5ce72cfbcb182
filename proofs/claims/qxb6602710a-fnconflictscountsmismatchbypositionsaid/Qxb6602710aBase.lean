/-
  Seat b6602710a: the words that all walks of this seat use.
-/
import Derived.Test.Qxb6602710aRows
import Derived.WalkKit
import Derived.WalkLawsBesides
import Derived.ProofKit
import Derived.OpenShut
import Derived.ChangeOld
import Derived.Deep.MidRow
import Derived.Deep.OwnRows
import Derived.Deep.QuietTactic
import Derived.BigQuiet
namespace Go.Proofs.Qxb6602710a
open Go.ChangeShapes Go.WideShapes Go.ChangeAt Go.RowKit

/-- It answers some bool, and nothing that was there has turned. -/
def RetB (w : World) (e : Ending) (w' : World) : Prop := ∃ r, e = .returned (.bool r) ∧ Below w.heap.size w w'

/-- A slice whose elements are one cell each, as it came in: nothing in it; or its cells. -/
def IsCells (w : World) (a : Option Addr) (len : Nat) (V : Nat → Value) : Prop :=
  len < 1 ∨ ∃ b o, a = some ⟨b, o, none⟩ ∧ b < w.heap.size ∧ ∀ i, i < len → w.cell? ⟨b, o + i, none⟩ = some (V i)

end Go.Proofs.Qxb6602710a
