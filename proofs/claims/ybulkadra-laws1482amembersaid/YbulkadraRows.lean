/-
  No cell of these rows narrows 'for every input' (looked for: loops, veiled, ifaces, maps, wideKeys, modest, calm, conditions, laid).
  DERIVED. THE GIVEN ROWS OF THIS SEAT. 2 by the template 'for every input the law returns true; each argument reads behind the call as it read before'; 0 by the template 'total and deterministic' (their statements: YbulkadraTotals.lean).
  GIVEN WITH THE SEED: the statements are not yours to turn. If you find one false, say at which input.
  Laid BY PROGRAM, IN A SANDBOX (cutbox-rows.mjs): the forced cells as the released guide's own fill.sh prints them over the translation c3579d726ae7cc27… (all of the seat's roots in one cut). By AI agents, Wed Nov 11 2026. No macro, syntax, notation, axiom, sorry.
-/
import Derived.Test.YbulkadraChecked
import GoSem.Claim
import GoSem.ClaimJoined
import GoSem.ClaimMapViews
import Derived.JoinedTies
import Derived.KernelRfl
namespace Go.Proofs.Ybulkadra
/- THE CELL 'sum', in the pinned program and in every row, IS THE sha256 OF THE DUMP (.gsa) THAT YbulkadraProg.lean LOADS. Nothing in Lean hashes anything: it is a label: what it is worth is what the hold of that sum in a sandbox is worth. -/
noncomputable def Yba.pinned : Pinned := { name := "ybulkadra", sum := "c3579d726ae7cc27a12e99b69aab1f5c0c357f56f16c82fee2155687e871eb66", checked := Yba.checked }
namespace Rows
def none {H : Type} : Left H := { results := [], args := [] }

/-- 'fetch.LawS1482AExact': WHATEVER THE INPUT: true; the input reads as it did. -/
def lawS1482AExactSpec : ChangeSpec := { name := "lawS1482AExact", fn := fun _ => fun
  | [d] => { results := [.lit (.bool true)], args := [d] }
  | _ => none }
def lawS1482AExactRow : OpenClaim := { program := "ybulkadra", sum := "c3579d726ae7cc27a12e99b69aab1f5c0c357f56f16c82fee2155687e871eb66", func := "example.com/peerglot/peerglot/fetch.LawS1482AExact", spec := "lawS1482AExact", apart := false }
def LawS1482AExactSaid : Prop := lawS1482AExactRow.holds Yba.pinned (OpenSpec.ofChange lawS1482AExactSpec)

/-- ITS FALSE NEIGHBOUR: 'it returns false'. Refute it at one input. -/
def lawS1482AExactWrong : ChangeSpec := { name := "lawS1482AExact", fn := fun _ => fun
  | [d] => { results := [.lit (.bool false)], args := [d] }
  | _ => none }
def LawS1482AExactWrongFalsely : Prop := lawS1482AExactRow.holds Yba.pinned (OpenSpec.ofChange lawS1482AExactWrong)

/-- 'fetch.LawS1482AMember': WHATEVER THE INPUT: true; the input reads as it did. -/
def lawS1482AMemberSpec : ChangeSpec := { name := "lawS1482AMember", fn := fun _ => fun
  | [d1, d2] => { results := [.lit (.bool true)], args := [d1, d2] }
  | _ => none }
def lawS1482AMemberRow : OpenClaim := { program := "ybulkadra", sum := "c3579d726ae7cc27a12e99b69aab1f5c0c357f56f16c82fee2155687e871eb66", func := "example.com/peerglot/peerglot/fetch.LawS1482AMember", spec := "lawS1482AMember", apart := false }
def LawS1482AMemberSaid : Prop := lawS1482AMemberRow.holds Yba.pinned (OpenSpec.ofChange lawS1482AMemberSpec)

/-- ITS FALSE NEIGHBOUR: 'it returns false'. Refute it at one input. -/
def lawS1482AMemberWrong : ChangeSpec := { name := "lawS1482AMember", fn := fun _ => fun
  | [d1, d2] => { results := [.lit (.bool false)], args := [d1, d2] }
  | _ => none }
def LawS1482AMemberWrongFalsely : Prop := lawS1482AMemberRow.holds Yba.pinned (OpenSpec.ofChange lawS1482AMemberWrong)

end Rows
end Go.Proofs.Ybulkadra
