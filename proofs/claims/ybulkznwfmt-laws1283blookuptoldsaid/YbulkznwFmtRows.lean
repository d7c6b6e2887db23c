/-
  No cell of these rows narrows 'for every input' (looked for: loops, veiled, ifaces, maps, wideKeys, modest, calm, conditions, laid).
  DERIVED. THE GIVEN ROWS OF THIS SEAT. 1 by the template 'for every input the law returns true; each argument reads behind the call as it read before'; 0 by the template 'total and deterministic' (their statements: YbulkznwFmtTotals.lean).
  GIVEN WITH THE SEED: the statements are not yours to turn. If you find one false, say at which input.
  Laid BY PROGRAM, IN A SANDBOX (cutbox-rows.mjs): the forced cells as the released guide's own fill.sh prints them over the translation 16f8130b8e6ceeb8… (all of the seat's roots in one cut). By AI agents, Wed Nov 11 2026. No macro, syntax, notation, axiom, sorry.
-/
import Derived.Test.YbulkznwFmtChecked
import GoSem.Claim
import GoSem.ClaimJoined
import GoSem.ClaimMapViews
import Derived.JoinedTies
import Derived.KernelRfl
namespace Go.Proofs.YbulkznwFmt
/- THE CELL 'sum', in the pinned program and in every row, IS THE sha256 OF THE DUMP (.gsa) THAT YbulkznwFmtProg.lean LOADS. Nothing in Lean hashes anything: it is a label: what it is worth is what the hold of that sum in a sandbox is worth. -/
noncomputable def Ybaf.pinned : Pinned := { name := "ybulkznwfmt", sum := "16f8130b8e6ceeb87083433dbf1349d4f419399dec6b213493c877b886fe651d", checked := Ybaf.checked }
namespace Rows
def none {H : Type} : Left H := { results := [], args := [] }

/-- 'cdns.LawS1283BLookup': WHATEVER THE INPUT: true; the input reads as it did. -/
def lawS1283BLookupSpec : ChangeSpec := { name := "lawS1283BLookup", fn := fun _ => fun
  | [d1, d2, d3, d4, d5] => { results := [.lit (.bool true)], args := [d1, d2, d3, d4, d5] }
  | _ => none }
def lawS1283BLookupRow : OpenClaim := { program := "ybulkznwfmt", sum := "16f8130b8e6ceeb87083433dbf1349d4f419399dec6b213493c877b886fe651d", func := "example.com/wirespell/wirespell/cdns.LawS1283BLookup", spec := "lawS1283BLookup", stops := ["fmt.errorf, its operands' methods called"], inPlace := ["fmt.errorf"], unfollowed := true, recurses := true, apart := false }
/-- NO THEOREM (fmt's text is open here; it may be false): for the released tool's asking of the row's closed facts alone. THE STATEMENT IS 'LawS1283BLookupToldSaid' (YbulkznwFmtCards.lean). -/
def LawS1283BLookupFormAsk : Prop := lawS1283BLookupRow.holds Ybaf.pinned (OpenSpec.ofChange lawS1283BLookupSpec)

/-- ITS FALSE NEIGHBOUR: 'it returns false'. Refute it at one input. -/
def lawS1283BLookupWrong : ChangeSpec := { name := "lawS1283BLookup", fn := fun _ => fun
  | [d1, d2, d3, d4, d5] => { results := [.lit (.bool false)], args := [d1, d2, d3, d4, d5] }
  | _ => none }
def LawS1283BLookupWrongFormAsk : Prop := lawS1283BLookupRow.holds Ybaf.pinned (OpenSpec.ofChange lawS1283BLookupWrong)

end Rows
end Go.Proofs.YbulkznwFmt
