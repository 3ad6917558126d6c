/- What a list of numbers reads as: nothing, or a block of its own. -/
import Derived.Test.YthknahhbbhbgoaaGreatDoorVSteps
namespace Go.Sx
open Go Go.Proofs Go.Fl
open Go.Lib (strCells)

/-- What HistWhole answers: nothing, or a block of its own. -/
def hwVal (b K sp : Nat) : Value := if K = 0 then .slice none 0 0 else .slice (some ⟨b, 0, none⟩) K (K + sp)
def hwObj (x : Nat → Nat) (b K sp : Nat) : List (Nat × Obj) := if K = 0 then [] else [(b, .cells ⟨fl x K ++ zc (.float .f64 0) sp⟩ 27)]

end Go.Sx
