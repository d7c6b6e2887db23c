/-
  DERIVED. GIVEN WITH THE SEED: THE CARDS: each row of YbulkzkcDoorRows.lean that lists a variable, with what it lists TIED to the program's text (the seventh form; the later family's looks); each row that meets fmt, with fmt's text TOLD by the authors' own Lean function (tested against real Go, not proved from fmt's source: count such statements apart). THE CARD IS WHAT COUNTS. Prove the row's statement (the work); the ties are given (YbulkzkcDoorTie.lean); close each card by the builder's one call (the guide's Derived/Test/ToyasCard.lean, 'card_holds'). Laid BY PROGRAM, IN A SANDBOX (cutbox-door.mjs). By AI agents, Wed Nov 11 2026. No macro, syntax, notation, axiom, sorry.
-/
import Derived.Test.YbulkzkcDoorRows
import GoSem.ClaimSeven
namespace Go.Proofs.YbulkzkcDoor
namespace Rows

/-- THE TIED CARD OF 'dialectree.LawS1276CModel'. -/
def lawS1276CModelCard : Claim7 := { stood := { row := lawS1276CModelRow, standIns := [], harness := (true, "be563f7069e6b3b61ef83c66261b769cc06afe15ea41e1288c08d43bcad2fb61"), looks := true }, kinds := [], alts := [], laidByText := true, laidKinds := [.data, .data, .data, .sentinel, .sentinel], laidTests := true, laidLooks := .later }
def LawS1276CModelCardSaid : Prop := Claim7.holds Ybad.pinned (.plain (OpenSpec.ofChange lawS1276CModelSpec)) lawS1276CModelCard

/-- THE TIED CARD OF 'dialectree.LawS1276CBuilt'. -/
def lawS1276CBuiltCard : Claim7 := { stood := { row := lawS1276CBuiltRow, standIns := [], harness := (true, "be563f7069e6b3b61ef83c66261b769cc06afe15ea41e1288c08d43bcad2fb61"), looks := true }, kinds := [], alts := [], laidByText := true, laidKinds := [.data, .data, .data, .sentinel, .sentinel], laidTests := true, laidLooks := .later }
def LawS1276CBuiltCardSaid : Prop := Claim7.holds Ybad.pinned (.plain (OpenSpec.ofChange lawS1276CBuiltSpec)) lawS1276CBuiltCard
end Rows
end Go.Proofs.YbulkzkcDoor
