/- The closed facts of FnLinear's row, one by one. -/
import Derived.Test.YthknahhbbhbgoaaGreatDoorTie
import Derived.Test.YthknahhbbhbgoaaGreatDoorCards
import Derived.ProofKit
import Derived.OpenShut
import Derived.JoinedOf
namespace Go.Proofs.YthknahhbbhbgoaaGreatDoor.fnLinear
open Go Go.ChangeShapes Go.WideShapes Go.ChangeAt Go.RowKit
theorem jf0 : Rows.fnLinearRow.wf (OpenSpec.ofChange Rows.fnLinearSpec) = true := by kernel_rfl
theorem jf1 : laidOutB Tryz.prog = true := by kernel_rfl
theorem jf2 : mapsRowed Tryz.prog = true := by kernel_rfl
theorem jf3 : Tryz.f5.params.all (Tryz.prog.readableRec ·) = true := by kernel_rfl
theorem jf4 : namedTie Tryz.prog Rows.fnLinearRow.named Rows.fnLinearSpec.vars = true := by kernel_rfl
theorem jf5 : (Rows.fnLinearRow.stops == []) = true := by kernel_rfl
theorem jf6 : (Tryz.prog.stops == []) = true := by kernel_rfl
theorem jf7 : (Rows.fnLinearRow.knobs == []) = true := by kernel_rfl
theorem jf8 : (Tryz.prog.stopKnobs == []) = true := by kernel_rfl
theorem jf9 : (Rows.fnLinearRow.inPlace == Tryz.prog.inPlace 5) = true := by kernel_rfl
theorem jf10 : (Rows.fnLinearRow.unfollowed == Tryz.prog.unfollowed 5) = true := by kernel_rfl
theorem jf11 : (Rows.fnLinearRow.recurses == Tryz.prog.recurses 5) = true := by kernel_rfl
theorem jf12 : (Rows.fnLinearRow.named == Tryz.prog.varsNamed 5) = true := by kernel_rfl
theorem jf13 : (Rows.fnLinearRow.maps == (Tryz.f5.params.toList ++ Rows.fnLinearSpec.plain.varTypes Tryz.prog).any (Tryz.prog.mapsRec ·)) = true := by kernel_rfl
theorem jf14 : (Rows.fnLinearRow.ifaces == (Tryz.f5.params.toList ++ Rows.fnLinearSpec.plain.varTypes Tryz.prog).any (Tryz.prog.ifacesRec ·)) = true := by kernel_rfl
theorem jf15 : (Rows.fnLinearRow.mapsOut == Tryz.prog.mapsAmong Tryz.f5.resultTypes.toList) = true := by kernel_rfl
theorem jf16 : (Rows.fnLinearRow.loops == (Tryz.f5.params.toList ++ Rows.fnLinearSpec.plain.varTypes Tryz.prog).any (Tryz.prog.loopsFrom ·)) = true := by kernel_rfl
theorem jf17 : (Rows.fnLinearRow.wideKeys == (Tryz.f5.params.toList ++ Rows.fnLinearSpec.plain.varTypes Tryz.prog ++ Tryz.f5.resultTypes.toList).any (Tryz.prog.wideKeysFrom ·)) = true := by kernel_rfl
theorem jf18 : Rows.fnLinearSpec.vars.all (Tryz.prog.varReadable ·) = true := by kernel_rfl
theorem jf19 : Tryz.f5.resultTypes.all (fun t => Tryz.prog.readableRec t && decide (t < Tryz.prog.types.size)) = true := by kernel_rfl
theorem jf20 : (Rows.fnLinearRow.ifacesOut == Tryz.f5.resultTypes.toList.any (Tryz.prog.ifacesRec ·)) = true := by kernel_rfl
theorem jf21 : (Rows.fnLinearRow.loopsOut == Tryz.f5.resultTypes.toList.any (Tryz.prog.loopsFrom ·)) = true := by kernel_rfl
theorem jf22 : (Rows.fnLinearRow.plainKeys == Tryz.prog.plainKeys) = true := by kernel_rfl
theorem jf23 : Rows.fnLinearRow.shortTexts.isNone = true := by kernel_rfl
theorem jf24 : Tryz.prog.stopsHeard = true := by kernel_rfl
theorem jf25 : Tryz.prog.mayEnter = true := by kernel_rfl
theorem jf26 : (Rows.fnLinearRow.lifted == Tryz.prog.liftsFinal) = true := by kernel_rfl
theorem jf27 : (Tryz.prog.make == some Rows.fnLinearRow.make) = true := by kernel_rfl
theorem jf28 : (Rows.fnLinearRow.kinds == (if Rows.fnLinearRow.domain.isEmpty then [] else Tryz.f5.params.toList.map fun t => match Tryz.prog.underlying t with | some (.int k) => some k | _ => none)) = true := by kernel_rfl
theorem jf29 : (Rows.fnLinearRow.pinned == Rows.fnLinearRow.pinnedBy) = true := by kernel_rfl
theorem jf30 : (Rows.fnLinearRow.veiled == (Tryz.f5.params.toList ++ Rows.fnLinearSpec.plain.varTypes Tryz.prog ++ Tryz.f5.resultTypes.toList).any (Tryz.prog.veiledRec ·)) = true := by kernel_rfl
theorem jf31 : Rows.fnLinearRow.veiledFits Tryz.prog Tryz.f5.params.toList (Tryz.f5.params.toList ++ Rows.fnLinearSpec.plain.varTypes Tryz.prog ++ Tryz.f5.resultTypes.toList) = true := by kernel_rfl
theorem andI {a b : Bool} (h1 : a = true) (h2 : b = true) : (a && b) = true := by rw [h1, h2]; rfl
set_option maxRecDepth 100000 in
theorem facts : joinedFacts Tryz.prog 5 Tryz.f5 Rows.fnLinearSpec Rows.fnLinearRow = true := by
  unfold joinedFacts
  exact (andI (andI (andI (andI (andI (andI (andI (andI (andI (andI (andI (andI (andI (andI (andI (andI (andI (andI (andI (andI (andI (andI (andI (andI (andI (andI (andI (andI (andI (andI (andI jf0 jf1) jf2) jf3) jf4) jf5) jf6) jf7) jf8) jf9) jf10) jf11) jf12) jf13) jf14) jf15) jf16) jf17) jf18) jf19) jf20) jf21) jf22) jf23) jf24) jf25) jf26) jf27) jf28) jf29) jf30) jf31)
end Go.Proofs.YthknahhbbhbgoaaGreatDoor.fnLinear
