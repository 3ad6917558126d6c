/-
  DERIVED. GIVEN WITH THE SEED: THE CARDS: each row of YthknahhbbhbgoaaGreatDoorRows.lean that lists a variable, with what it lists TIED to the program's text (the seventh form; the later family's looks); each row that meets fmt, with fmt's text TOLD by the authors' own Lean function (tested against real Go, not proved from fmt's source: count such statements apart). THE CARD IS WHAT COUNTS. Prove the row's statement (the work); the ties are given (YthknahhbbhbgoaaGreatDoorTie.lean); close each card by the builder's one call (the guide's Derived/Test/ToyasCard.lean, 'card_holds'). Laid BY PROGRAM, IN A SANDBOX (cutbox-door.mjs). By AI agents, Wed Nov 11 2026. No macro, syntax, notation, axiom, sorry.
-/
import Derived.Test.YthknahhbbhbgoaaGreatDoorRows
import GoSem.ClaimSeven
namespace Go.Proofs.YthknahhbbhbgoaaGreatDoor
namespace Rows

/-- THE TIED CARD OF 'laws.FnHistInfinite'. -/
def fnHistInfiniteCard : Claim7 := { stood := { row := fnHistInfiniteRow, standIns := [], harness := (true, "04816e316638a76ac747d7152cb99f597ae0f4c84fa159d604abfd81a5de6834"), looks := true }, kinds := [], alts := [], laidByText := true, laidKinds := [.data, .sentinel, .sentinel, .widerDeep, .wider, .pinned], laidTests := true, laidLooks := .later }
def FnHistInfiniteCardSaid : Prop := Claim7.holds Tryz.pinned (.plain (OpenSpec.ofChange fnHistInfiniteSpec)) fnHistInfiniteCard

/-- THE TIED CARD OF 'laws.FnHistLinear'. -/
def fnHistLinearCard : Claim7 := { stood := { row := fnHistLinearRow, standIns := [], harness := (true, "04816e316638a76ac747d7152cb99f597ae0f4c84fa159d604abfd81a5de6834"), looks := true }, kinds := [], alts := [], laidByText := true, laidKinds := [.data, .sentinel, .sentinel, .widerDeep, .wider, .pinned], laidTests := true, laidLooks := .later }
def FnHistLinearCardSaid : Prop := Claim7.holds Tryz.pinned (.plain (OpenSpec.ofChange fnHistLinearSpec)) fnHistLinearCard

/-- THE TIED CARD OF 'laws.FnLinear'. -/
def fnLinearCard : Claim7 := { stood := { row := fnLinearRow, standIns := [], harness := (true, "04816e316638a76ac747d7152cb99f597ae0f4c84fa159d604abfd81a5de6834"), looks := true }, kinds := [], alts := [], laidByText := true, laidKinds := [.data, .sentinel, .sentinel, .widerDeep, .wider, .pinned], laidTests := true, laidLooks := .later }
def FnLinearCardSaid : Prop := Claim7.holds Tryz.pinned (.plain (OpenSpec.ofChange fnLinearSpec)) fnLinearCard

/-- THE SECOND FORM's CARD OF 'laws.FnHistInfinite'. -/
def fnHistInfiniteUptoCard : Claim7 := { stood := { row := fnHistInfiniteUptoRow, standIns := [], harness := (true, "04816e316638a76ac747d7152cb99f597ae0f4c84fa159d604abfd81a5de6834"), looks := true }, kinds := [], alts := [], laidByText := true, laidKinds := [.data, .sentinel, .sentinel, .widerDeep, .wider, .pinned], laidTests := true, laidLooks := .later }
def FnHistInfiniteUptoCardSaid : Prop := Claim7.holds Tryz.pinned (.plain (OpenSpec.upto fnHistInfiniteSpec)) fnHistInfiniteUptoCard

/-- THE SECOND FORM's CARD OF 'laws.FnHistLinear'. -/
def fnHistLinearUptoCard : Claim7 := { stood := { row := fnHistLinearUptoRow, standIns := [], harness := (true, "04816e316638a76ac747d7152cb99f597ae0f4c84fa159d604abfd81a5de6834"), looks := true }, kinds := [], alts := [], laidByText := true, laidKinds := [.data, .sentinel, .sentinel, .widerDeep, .wider, .pinned], laidTests := true, laidLooks := .later }
def FnHistLinearUptoCardSaid : Prop := Claim7.holds Tryz.pinned (.plain (OpenSpec.upto fnHistLinearSpec)) fnHistLinearUptoCard

/-- THE SECOND FORM's CARD OF 'laws.FnLinear'. -/
def fnLinearUptoCard : Claim7 := { stood := { row := fnLinearUptoRow, standIns := [], harness := (true, "04816e316638a76ac747d7152cb99f597ae0f4c84fa159d604abfd81a5de6834"), looks := true }, kinds := [], alts := [], laidByText := true, laidKinds := [.data, .sentinel, .sentinel, .widerDeep, .wider, .pinned], laidTests := true, laidLooks := .later }
def FnLinearUptoCardSaid : Prop := Claim7.holds Tryz.pinned (.plain (OpenSpec.upto fnLinearSpec)) fnLinearUptoCard
end Rows
end Go.Proofs.YthknahhbbhbgoaaGreatDoor
