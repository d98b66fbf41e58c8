/-
  No cell of these rows narrows 'for every input' (looked for: loops, veiled, ifaces, maps, wideKeys, modest, calm, conditions, laid).
  DERIVED. THE GIVEN ROWS OF THIS SEAT. 2 by the template 'for every input the law returns true; each argument reads behind the call as it read before'; 0 by the template 'total and deterministic' (their statements: YbulkadpyTotals.lean).
  GIVEN WITH THE SEED: the statements are not yours to turn. If you find one false, say at which input.
  Laid BY PROGRAM, IN A SANDBOX (cutbox-rows.mjs): the forced cells as the released guide's own fill.sh prints them over the translation e5355a02f8f79d41… (all of the seat's roots in one cut). By AI agents, Wed Nov 11 2026. No macro, syntax, notation, axiom, sorry.
-/
import Derived.Test.YbulkadpyChecked
import GoSem.Claim
import GoSem.ClaimJoined
import GoSem.ClaimMapViews
import Derived.JoinedTies
import Derived.KernelRfl
namespace Go.Proofs.Ybulkadpy
/- THE CELL 'sum', in the pinned program and in every row, IS THE sha256 OF THE DUMP (.gsa) THAT YbulkadpyProg.lean LOADS. Nothing in Lean hashes anything: it is a label: what it is worth is what the hold of that sum in a sandbox is worth. -/
noncomputable def Yba.pinned : Pinned := { name := "ybulkadpy", sum := "e5355a02f8f79d415e8adabd1d97c920c18caa96b3b190ede809b5fa422787b9", checked := Yba.checked }
namespace Rows
def none {H : Type} : Left H := { results := [], args := [] }

/-- 'replay.LawS1480AAbort': WHATEVER THE INPUT: true; the input reads as it did. -/
def lawS1480AAbortSpec : ChangeSpec := { name := "lawS1480AAbort", fn := fun _ => fun
  | [d1, d2] => { results := [.lit (.bool true)], args := [d1, d2] }
  | _ => none }
def lawS1480AAbortRow : OpenClaim := { program := "ybulkadpy", sum := "e5355a02f8f79d415e8adabd1d97c920c18caa96b3b190ede809b5fa422787b9", func := "example.com/cronograma/cronograma/pkg/replay.LawS1480AAbort", spec := "lawS1480AAbort", unfollowed := true, recurses := true, apart := false }
def LawS1480AAbortSaid : Prop := lawS1480AAbortRow.holds Yba.pinned (OpenSpec.ofChange lawS1480AAbortSpec)

/-- ITS FALSE NEIGHBOUR: 'it returns false'. Refute it at one input. -/
def lawS1480AAbortWrong : ChangeSpec := { name := "lawS1480AAbort", fn := fun _ => fun
  | [d1, d2] => { results := [.lit (.bool false)], args := [d1, d2] }
  | _ => none }
def LawS1480AAbortWrongFalsely : Prop := lawS1480AAbortRow.holds Yba.pinned (OpenSpec.ofChange lawS1480AAbortWrong)

/-- 'replay.LawS1480BMatchesTable': WHATEVER THE INPUT: true; the input reads as it did. -/
def lawS1480BMatchesTableSpec : ChangeSpec := { name := "lawS1480BMatchesTable", fn := fun _ => fun
  | [d1, d2, d3, d4, d5, d6] => { results := [.lit (.bool true)], args := [d1, d2, d3, d4, d5, d6] }
  | _ => none }
def lawS1480BMatchesTableRow : OpenClaim := { program := "ybulkadpy", sum := "e5355a02f8f79d415e8adabd1d97c920c18caa96b3b190ede809b5fa422787b9", func := "example.com/cronograma/cronograma/pkg/replay.LawS1480BMatchesTable", spec := "lawS1480BMatchesTable", unfollowed := true, recurses := true, apart := false }
def LawS1480BMatchesTableSaid : Prop := lawS1480BMatchesTableRow.holds Yba.pinned (OpenSpec.ofChange lawS1480BMatchesTableSpec)

/-- ITS FALSE NEIGHBOUR: 'it returns false'. Refute it at one input. -/
def lawS1480BMatchesTableWrong : ChangeSpec := { name := "lawS1480BMatchesTable", fn := fun _ => fun
  | [d1, d2, d3, d4, d5, d6] => { results := [.lit (.bool false)], args := [d1, d2, d3, d4, d5, d6] }
  | _ => none }
def LawS1480BMatchesTableWrongFalsely : Prop := lawS1480BMatchesTableRow.holds Yba.pinned (OpenSpec.ofChange lawS1480BMatchesTableWrong)

end Rows
end Go.Proofs.Ybulkadpy
