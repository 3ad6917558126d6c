/- The closed facts of FnHistInfinite's row, one by one. -/
import Derived.Test.YthknahhbbhbgoaaGreatDoorTie
import Derived.Test.YthknahhbbhbgoaaGreatDoorCards
import Derived.ProofKit
import Derived.OpenShut
import Derived.JoinedOf
namespace Go.Proofs.YthknahhbbhbgoaaGreatDoor.fnHistInfinite
open Go Go.ChangeShapes Go.WideShapes Go.ChangeAt Go.RowKit
theorem jf0 : Rows.fnHistInfiniteRow.wf (OpenSpec.ofChange Rows.fnHistInfiniteSpec) = true := by kernel_rfl
theorem jf1 : laidOutB Tryz.prog = true := by kernel_rfl
theorem jf2 : mapsRowed Tryz.prog = true := by kernel_rfl
theorem jf3 : Tryz.f3.params.all (Tryz.prog.readableRec ·) = true := by kernel_rfl
theorem jf4 : namedTie Tryz.prog Rows.fnHistInfiniteRow.named Rows.fnHistInfiniteSpec.vars = true := by kernel_rfl
theorem jf5 : (Rows.fnHistInfiniteRow.stops == []) = true := by kernel_rfl
theorem jf6 : (Tryz.prog.stops == []) = true := by kernel_rfl
theorem jf7 : (Rows.fnHistInfiniteRow.knobs == []) = true := by kernel_rfl
theorem jf8 : (Tryz.prog.stopKnobs == []) = true := by kernel_rfl
theorem jf9 : (Rows.fnHistInfiniteRow.inPlace == Tryz.prog.inPlace 3) = true := by kernel_rfl
theorem jf10 : (Rows.fnHistInfiniteRow.unfollowed == Tryz.prog.unfollowed 3) = true := by kernel_rfl
theorem jf11 : (Rows.fnHistInfiniteRow.recurses == Tryz.prog.recurses 3) = true := by kernel_rfl
theorem jf12 : (Rows.fnHistInfiniteRow.named == Tryz.prog.varsNamed 3) = true := by kernel_rfl
theorem jf13 : (Rows.fnHistInfiniteRow.maps == (Tryz.f3.params.toList ++ Rows.fnHistInfiniteSpec.plain.varTypes Tryz.prog).any (Tryz.prog.mapsRec ·)) = true := by kernel_rfl
theorem jf14 : (Rows.fnHistInfiniteRow.ifaces == (Tryz.f3.params.toList ++ Rows.fnHistInfiniteSpec.plain.varTypes Tryz.prog).any (Tryz.prog.ifacesRec ·)) = true := by kernel_rfl
theorem jf15 : (Rows.fnHistInfiniteRow.mapsOut == Tryz.prog.mapsAmong Tryz.f3.resultTypes.toList) = true := by kernel_rfl
theorem jf16 : (Rows.fnHistInfiniteRow.loops == (Tryz.f3.params.toList ++ Rows.fnHistInfiniteSpec.plain.varTypes Tryz.prog).any (Tryz.prog.loopsFrom ·)) = true := by kernel_rfl
theorem jf17 : (Rows.fnHistInfiniteRow.wideKeys == (Tryz.f3.params.toList ++ Rows.fnHistInfiniteSpec.plain.varTypes Tryz.prog ++ Tryz.f3.resultTypes.toList).any (Tryz.prog.wideKeysFrom ·)) = true := by kernel_rfl
theorem jf18 : Rows.fnHistInfiniteSpec.vars.all (Tryz.prog.varReadable ·) = true := by kernel_rfl
theorem jf19 : Tryz.f3.resultTypes.all (fun t => Tryz.prog.readableRec t && decide (t < Tryz.prog.types.size)) = true := by kernel_rfl
theorem jf20 : (Rows.fnHistInfiniteRow.ifacesOut == Tryz.f3.resultTypes.toList.any (Tryz.prog.ifacesRec ·)) = true := by kernel_rfl
theorem jf21 : (Rows.fnHistInfiniteRow.loopsOut == Tryz.f3.resultTypes.toList.any (Tryz.prog.loopsFrom ·)) = true := by kernel_rfl
theorem jf22 : (Rows.fnHistInfiniteRow.plainKeys == Tryz.prog.plainKeys) = true := by kernel_rfl
theorem jf23 : Rows.fnHistInfiniteRow.shortTexts.isNone = true := by kernel_rfl
theorem jf24 : Tryz.prog.stopsHeard = true := by kernel_rfl
theorem jf25 : Tryz.prog.mayEnter = true := by kernel_rfl
theorem jf26 : (Rows.fnHistInfiniteRow.lifted == Tryz.prog.liftsFinal) = true := by kernel_rfl
theorem jf27 : (Tryz.prog.make == some Rows.fnHistInfiniteRow.make) = true := by kernel_rfl
theorem jf28 : (Rows.fnHistInfiniteRow.kinds == (if Rows.fnHistInfiniteRow.domain.isEmpty then [] else Tryz.f3.params.toList.map fun t => match Tryz.prog.underlying t with | some (.int k) => some k | _ => none)) = true := by kernel_rfl
theorem jf29 : (Rows.fnHistInfiniteRow.pinned == Rows.fnHistInfiniteRow.pinnedBy) = true := by kernel_rfl
theorem jf30 : (Rows.fnHistInfiniteRow.veiled == (Tryz.f3.params.toList ++ Rows.fnHistInfiniteSpec.plain.varTypes Tryz.prog ++ Tryz.f3.resultTypes.toList).any (Tryz.prog.veiledRec ·)) = true := by kernel_rfl
theorem jf31 : Rows.fnHistInfiniteRow.veiledFits Tryz.prog Tryz.f3.params.toList (Tryz.f3.params.toList ++ Rows.fnHistInfiniteSpec.plain.varTypes Tryz.prog ++ Tryz.f3.resultTypes.toList) = true := by kernel_rfl
theorem andI {a b : Bool} (h1 : a = true) (h2 : b = true) : (a && b) = true := by rw [h1, h2]; rfl
set_option maxRecDepth 100000 in
theorem facts : joinedFacts Tryz.prog 3 Tryz.f3 Rows.fnHistInfiniteSpec Rows.fnHistInfiniteRow = true := by
  unfold joinedFacts
  exact (andI (andI (andI (andI (andI (andI (andI (andI (andI (andI (andI (andI (andI (andI (andI (andI (andI (andI (andI (andI (andI (andI (andI (andI (andI (andI (andI (andI (andI (andI (andI jf0 jf1) jf2) jf3) jf4) jf5) jf6) jf7) jf8) jf9) jf10) jf11) jf12) jf13) jf14) jf15) jf16) jf17) jf18) jf19) jf20) jf21) jf22) jf23) jf24) jf25) jf26) jf27) jf28) jf29) jf30) jf31)
end Go.Proofs.YthknahhbbhbgoaaGreatDoor.fnHistInfinite
