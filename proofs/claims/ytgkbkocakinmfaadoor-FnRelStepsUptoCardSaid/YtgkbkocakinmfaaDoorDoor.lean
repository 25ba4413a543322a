/-
  A world in which the tables that the rows list hold what the rows say: for the rows' witness. Conditions: none.
-/
import Derived.Test.YtgkbkocakinmfaaDoorCards
import Derived.Test.YtgkbkocakinmfaaDoorTie
import Derived.WalkKit
import Derived.ProofKit
import Derived.OpenShut
import Derived.Deep.DeepHandedRow
import Derived.Lib.LaidTab
import GoSem.PinnedTables
namespace Go.Proofs.YtgkbkocakinmfaaDoor
open Go.ChangeShapes Go.WideShapes Go.ChangeAt Go.RowKit

theorem own : ownKnob Tryd.prog.godebug = none := by kernel_rfl

def tabFirst : Array Value := (Go.Pinned.utf8FirstZ.map fun n : Nat => Value.int .u8 (n : Int)).toArray
def tabRanges : Array Value := (([128, 191, 160, 191, 128, 159, 144, 191, 128, 143] ++ List.replicate 22 0).map fun n : Nat => Value.int .u8 (n : Int)).toArray

def setCells (cs : Array Value) : Obj → Obj
  | .cells _ t frozen => .cells cs t frozen
  | o => o

noncomputable def laidWorld (os : Os) : World :=
  { World.holding Tryd.prog os ⟨#[], #[], []⟩ with heap := ((World.holding Tryd.prog os ⟨#[], #[], []⟩).heap.modify 1 (setCells tabFirst)).modify 2 (setCells tabRanges) }
end Go.Proofs.YtgkbkocakinmfaaDoor
