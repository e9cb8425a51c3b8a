/-
  The drawing of one number, and of two.
-/
import Derived.Test.YtngpgkldocpjdaaDraws
import Derived.Deep.RegionWith
namespace Go.Proofs.Ytngpgkldocpjdaa
open Go.RowKit

/-- some number is handed back; what was there is as it was -/
def SomeRune (w : World) (e : Ending) (w' : World) : Prop := ∃ x : Int, (Lit.int .i32 x).wf = true ∧ e = .returned (.int .i32 x) ∧ Below w.heap.size w w'

def SomeRunes (w : World) (e : Ending) (w' : World) : Prop := ∃ x y : Int, (Lit.int .i32 x).wf = true ∧ (Lit.int .i32 y).wf = true ∧ e = .returned (.tuple #[.int .i32 x, .int .i32 y]) ∧ Below w.heap.size w w'

end Go.Proofs.Ytngpgkldocpjdaa
