/- The closed facts of FnHistLinear's row, one by one. -/
import Derived.Test.YthknahhbbhbgoaaGreatDoorTie
import Derived.Test.YthknahhbbhbgoaaGreatDoorCards
import Derived.ProofKit
import Derived.OpenShut
import Derived.JoinedOf
namespace Go.Proofs.YthknahhbbhbgoaaGreatDoor.fnHistLinear
open Go Go.ChangeShapes Go.WideShapes Go.ChangeAt Go.RowKit
theorem jf0 : Rows.fnHistLinearRow.wf (OpenSpec.ofChange Rows.fnHistLinearSpec) = true := by kernel_rfl
theorem jf1 : laidOutB Tryz.prog = true := by kernel_rfl
theorem jf2 : mapsRowed Tryz.prog = true := by kernel_rfl
theorem jf3 : Tryz.f4.params.all (Tryz.prog.readableRec ·) = true := by kernel_rfl
theorem jf4 : namedTie Tryz.prog Rows.fnHistLinearRow.named Rows.fnHistLinearSpec.vars = true := by kernel_rfl
theorem jf5 : (Rows.fnHistLinearRow.stops == []) = true := by kernel_rfl
theorem jf6 : (Tryz.prog.stops == []) = true := by kernel_rfl
theorem jf7 : (Rows.fnHistLinearRow.knobs == []) = true := by kernel_rfl
theorem jf8 : (Tryz.prog.stopKnobs == []) = true := by kernel_rfl
theorem jf9 : (Rows.fnHistLinearRow.inPlace == Tryz.prog.inPlace 4) = true := by kernel_rfl
theorem jf10 : (Rows.fnHistLinearRow.unfollowed == Tryz.prog.unfollowed 4) = true := by kernel_rfl
theorem jf11 : (Rows.fnHistLinearRow.recurses == Tryz.prog.recurses 4) = true := by kernel_rfl
theorem jf12 : (Rows.fnHistLinearRow.named == Tryz.prog.varsNamed 4) = true := by kernel_rfl
theorem jf13 : (Rows.fnHistLinearRow.maps == (Tryz.f4.params.toList ++ Rows.fnHistLinearSpec.plain.varTypes Tryz.prog).any (Tryz.prog.mapsRec ·)) = true := by kernel_rfl
theorem jf14 : (Rows.fnHistLinearRow.ifaces == (Tryz.f4.params.toList ++ Rows.fnHistLinearSpec.plain.varTypes Tryz.prog).any (Tryz.prog.ifacesRec ·)) = true := by kernel_rfl
theorem jf15 : (Rows.fnHistLinearRow.mapsOut == Tryz.prog.mapsAmong Tryz.f4.resultTypes.toList) = true := by kernel_rfl
theorem jf16 : (Rows.fnHistLinearRow.loops == (Tryz.f4.params.toList ++ Rows.fnHistLinearSpec.plain.varTypes Tryz.prog).any (Tryz.prog.loopsFrom ·)) = true := by kernel_rfl
theorem jf17 : (Rows.fnHistLinearRow.wideKeys == (Tryz.f4.params.toList ++ Rows.fnHistLinearSpec.plain.varTypes Tryz.prog ++ Tryz.f4.resultTypes.toList).any (Tryz.prog.wideKeysFrom ·)) = true := by kernel_rfl
theorem jf18 : Rows.fnHistLinearSpec.vars.all (Tryz.prog.varReadable ·) = true := by kernel_rfl
theorem jf19 : Tryz.f4.resultTypes.all (fun t => Tryz.prog.readableRec t && decide (t < Tryz.prog.types.size)) = true := by kernel_rfl
theorem jf20 : (Rows.fnHistLinearRow.ifacesOut == Tryz.f4.resultTypes.toList.any (Tryz.prog.ifacesRec ·)) = true := by kernel_rfl
theorem jf21 : (Rows.fnHistLinearRow.loopsOut == Tryz.f4.resultTypes.toList.any (Tryz.prog.loopsFrom ·)) = true := by kernel_rfl
theorem jf22 : (Rows.fnHistLinearRow.plainKeys == Tryz.prog.plainKeys) = true := by kernel_rfl
theorem jf23 : Rows.fnHistLinearRow.shortTexts.isNone = true := by kernel_rfl
theorem jf24 : Tryz.prog.stopsHeard = true := by kernel_rfl
theorem jf25 : Tryz.prog.mayEnter = true := by kernel_rfl
theorem jf26 : (Rows.fnHistLinearRow.lifted == Tryz.prog.liftsFinal) = true := by kernel_rfl
theorem jf27 : (Tryz.prog.make == some Rows.fnHistLinearRow.make) = true := by kernel_rfl
theorem jf28 : (Rows.fnHistLinearRow.kinds == (if Rows.fnHistLinearRow.domain.isEmpty then [] else Tryz.f4.params.toList.map fun t => match Tryz.prog.underlying t with | some (.int k) => some k | _ => none)) = true := by kernel_rfl
theorem jf29 : (Rows.fnHistLinearRow.pinned == Rows.fnHistLinearRow.pinnedBy) = true := by kernel_rfl
theorem jf30 : (Rows.fnHistLinearRow.veiled == (Tryz.f4.params.toList ++ Rows.fnHistLinearSpec.plain.varTypes Tryz.prog ++ Tryz.f4.resultTypes.toList).any (Tryz.prog.veiledRec ·)) = true := by kernel_rfl
theorem jf31 : Rows.fnHistLinearRow.veiledFits Tryz.prog Tryz.f4.params.toList (Tryz.f4.params.toList ++ Rows.fnHistLinearSpec.plain.varTypes Tryz.prog ++ Tryz.f4.resultTypes.toList) = true := by kernel_rfl
theorem andI {a b : Bool} (h1 : a = true) (h2 : b = true) : (a && b) = true := by rw [h1, h2]; rfl
set_option maxRecDepth 100000 in
theorem facts : joinedFacts Tryz.prog 4 Tryz.f4 Rows.fnHistLinearSpec Rows.fnHistLinearRow = true := by
  unfold joinedFacts
  exact (andI (andI (andI (andI (andI (andI (andI (andI (andI (andI (andI (andI (andI (andI (andI (andI (andI (andI (andI (andI (andI (andI (andI (andI (andI (andI (andI (andI (andI (andI (andI jf0 jf1) jf2) jf3) jf4) jf5) jf6) jf7) jf8) jf9) jf10) jf11) jf12) jf13) jf14) jf15) jf16) jf17) jf18) jf19) jf20) jf21) jf22) jf23) jf24) jf25) jf26) jf27) jf28) jf29) jf30) jf31)
end Go.Proofs.YthknahhbbhbgoaaGreatDoor.fnHistLinear
