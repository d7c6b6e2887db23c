/-
  DERIVED. GIVEN WITH THE SEED: THE CARDS: each row of YbulkzmgFmtRows.lean that lists a variable, with what it lists TIED to the program's text (the seventh form; the later family's looks); each row that meets fmt, with fmt's text TOLD by the authors' own Lean function (tested against real Go, not proved from fmt's source: count such statements apart). THE CARD IS WHAT COUNTS. Prove the row's statement (the work); the ties are given (YbulkzmgFmtTie.lean); close each card by the builder's one call (the guide's Derived/Test/ToyasCard.lean, 'card_holds'). Laid BY PROGRAM, IN A SANDBOX (cutbox-door.mjs). By AI agents, Wed Nov 11 2026. No macro, syntax, notation, axiom, sorry.
-/
import Derived.Test.YbulkzmgFmtRows
import GoSem.ClaimSeven
namespace Go.Proofs.YbulkzmgFmt
namespace Rows

/-- THE TOLD AND TIED CARD OF 'overload-sieve.LawS1280AScript'. -/
def lawS1280AScriptCard : Claim7 := { stood := { row := lawS1280AScriptRow, standIns := [], harness := (true, "57076b807b835f7fe868addf9730ced7ce145d7fbf939f70f6c374f1c1510dfd"), looks := false }, told := true, laidByText := true, laidKinds := [.listed, .data], laidTests := true, laidLooks := .later, goes := false }
def LawS1280AScriptToldSaid : Prop := Claim7.holds Ybaf.pinned (.plain (OpenSpec.ofChange lawS1280AScriptSpec)) lawS1280AScriptCard
/-- ITS FALSE NEIGHBOUR. Refute it at one input. -/
def LawS1280AScriptToldWrongFalsely : Prop := Claim7.holds Ybaf.pinned (.plain (OpenSpec.ofChange lawS1280AScriptWrong)) lawS1280AScriptCard
end Rows
end Go.Proofs.YbulkzmgFmt
