/-
  DERIVED. GIVEN WITH THE SEED: THE CARDS: each row of YbulkznwFmtRows.lean that lists a variable, with what it lists TIED to the program's text (the seventh form; the later family's looks); each row that meets fmt, with fmt's text TOLD by the authors' own Lean function (tested against real Go, not proved from fmt's source: count such statements apart). THE CARD IS WHAT COUNTS. Prove the row's statement (the work); the ties are given (YbulkznwFmtTie.lean); close each card by the builder's one call (the guide's Derived/Test/ToyasCard.lean, 'card_holds'). Laid BY PROGRAM, IN A SANDBOX (cutbox-door.mjs). By AI agents, Wed Nov 11 2026. No macro, syntax, notation, axiom, sorry.
-/
import Derived.Test.YbulkznwFmtRows
import GoSem.ClaimSeven
namespace Go.Proofs.YbulkznwFmt
namespace Rows

/-- THE TOLD CARD OF 'cdns.LawS1283BLookup'. -/
def lawS1283BLookupCard : Claim7 := { stood := { row := lawS1283BLookupRow, standIns := [], harness := (true, "dd704a852fdd4fda8dd213c53af12db6de8a33567665683d169b08d2719372b8"), looks := false }, told := true, goes := false }
def LawS1283BLookupToldSaid : Prop := Claim7.holds Ybaf.pinned (.plain (OpenSpec.ofChange lawS1283BLookupSpec)) lawS1283BLookupCard
/-- ITS FALSE NEIGHBOUR. Refute it at one input. -/
def LawS1283BLookupToldWrongFalsely : Prop := Claim7.holds Ybaf.pinned (.plain (OpenSpec.ofChange lawS1283BLookupWrong)) lawS1283BLookupCard
end Rows
end Go.Proofs.YbulkznwFmt
