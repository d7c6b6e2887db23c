/-
  No cell of these rows narrows 'for every input' (looked for: loops, veiled, ifaces, maps, wideKeys, modest, calm, conditions, laid).
  DERIVED. THE GIVEN ROWS OF THIS SEAT. 3 by the template 'for every input the law returns true; each argument reads behind the call as it read before'; 0 by the template 'total and deterministic' (their statements: YbulkzimTotals.lean).
  GIVEN WITH THE SEED: the statements are not yours to turn. If you find one false, say at which input.
  Laid BY PROGRAM, IN A SANDBOX (cutbox-rows.mjs): the forced cells as the released guide's own fill.sh prints them over the translation 79b755fc8e458c6f… (all of the seat's roots in one cut). By AI agents, Wed Nov 11 2026. No macro, syntax, notation, axiom, sorry.
-/
import Derived.Test.YbulkzimChecked
import GoSem.Claim
import GoSem.ClaimJoined
import GoSem.ClaimMapViews
import Derived.JoinedTies
import Derived.KernelRfl
namespace Go.Proofs.Ybulkzim
/- THE CELL 'sum', in the pinned program and in every row, IS THE sha256 OF THE DUMP (.gsa) THAT YbulkzimProg.lean LOADS. Nothing in Lean hashes anything: it is a label: what it is worth is what the hold of that sum in a sandbox is worth. -/
noncomputable def Yba.pinned : Pinned := { name := "ybulkzim", sum := "79b755fc8e458c6fa17845d42aaf1cfe3125992e1c1679f0dbb140e0a8025221", checked := Yba.checked }
namespace Rows
def none {H : Type} : Left H := { results := [], args := [] }

/-- 'tickwise.LawS1273ACompact': WHATEVER THE INPUT: true; the input reads as it did. -/
def lawS1273ACompactSpec : ChangeSpec := { name := "lawS1273ACompact", fn := fun _ => fun
  | [d] => { results := [.lit (.bool true)], args := [d] }
  | _ => none }
def lawS1273ACompactRow : OpenClaim := { program := "ybulkzim", sum := "79b755fc8e458c6fa17845d42aaf1cfe3125992e1c1679f0dbb140e0a8025221", func := "example.com/tickwise/tickwise.LawS1273ACompact", spec := "lawS1273ACompact", unfollowed := true, recurses := true, apart := false }
def LawS1273ACompactSaid : Prop := lawS1273ACompactRow.holds Yba.pinned (OpenSpec.ofChange lawS1273ACompactSpec)

/-- ITS FALSE NEIGHBOUR: 'it returns false'. Refute it at one input. -/
def lawS1273ACompactWrong : ChangeSpec := { name := "lawS1273ACompact", fn := fun _ => fun
  | [d] => { results := [.lit (.bool false)], args := [d] }
  | _ => none }
def LawS1273ACompactWrongFalsely : Prop := lawS1273ACompactRow.holds Yba.pinned (OpenSpec.ofChange lawS1273ACompactWrong)

/-- 'tickwise.LawS1273BFreeList': WHATEVER THE INPUT: true; the input reads as it did. -/
def lawS1273BFreeListSpec : ChangeSpec := { name := "lawS1273BFreeList", fn := fun _ => fun
  | [d] => { results := [.lit (.bool true)], args := [d] }
  | _ => none }
def lawS1273BFreeListRow : OpenClaim := { program := "ybulkzim", sum := "79b755fc8e458c6fa17845d42aaf1cfe3125992e1c1679f0dbb140e0a8025221", func := "example.com/tickwise/tickwise.LawS1273BFreeList", spec := "lawS1273BFreeList", apart := false }
def LawS1273BFreeListSaid : Prop := lawS1273BFreeListRow.holds Yba.pinned (OpenSpec.ofChange lawS1273BFreeListSpec)

/-- ITS FALSE NEIGHBOUR: 'it returns false'. Refute it at one input. -/
def lawS1273BFreeListWrong : ChangeSpec := { name := "lawS1273BFreeList", fn := fun _ => fun
  | [d] => { results := [.lit (.bool false)], args := [d] }
  | _ => none }
def LawS1273BFreeListWrongFalsely : Prop := lawS1273BFreeListRow.holds Yba.pinned (OpenSpec.ofChange lawS1273BFreeListWrong)

/-- 'tickwise.LawS1273BFresh': WHATEVER THE INPUT: true; the input reads as it did. -/
def lawS1273BFreshSpec : ChangeSpec := { name := "lawS1273BFresh", fn := fun _ => fun
  | [d] => { results := [.lit (.bool true)], args := [d] }
  | _ => none }
def lawS1273BFreshRow : OpenClaim := { program := "ybulkzim", sum := "79b755fc8e458c6fa17845d42aaf1cfe3125992e1c1679f0dbb140e0a8025221", func := "example.com/tickwise/tickwise.LawS1273BFresh", spec := "lawS1273BFresh", apart := false }
def LawS1273BFreshSaid : Prop := lawS1273BFreshRow.holds Yba.pinned (OpenSpec.ofChange lawS1273BFreshSpec)

/-- ITS FALSE NEIGHBOUR: 'it returns false'. Refute it at one input. -/
def lawS1273BFreshWrong : ChangeSpec := { name := "lawS1273BFresh", fn := fun _ => fun
  | [d] => { results := [.lit (.bool false)], args := [d] }
  | _ => none }
def LawS1273BFreshWrongFalsely : Prop := lawS1273BFreshRow.holds Yba.pinned (OpenSpec.ofChange lawS1273BFreshWrong)

end Rows
end Go.Proofs.Ybulkzim
