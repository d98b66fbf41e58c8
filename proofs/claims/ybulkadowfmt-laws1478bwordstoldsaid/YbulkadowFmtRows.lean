/-
  No cell of these rows narrows 'for every input' (looked for: loops, veiled, ifaces, maps, wideKeys, modest, calm, conditions, laid).
  DERIVED. THE GIVEN ROWS OF THIS SEAT. 2 by the template 'for every input the law returns true; each argument reads behind the call as it read before'; 0 by the template 'total and deterministic' (their statements: YbulkadowFmtTotals.lean).
  GIVEN WITH THE SEED: the statements are not yours to turn. If you find one false, say at which input.
  Laid BY PROGRAM, IN A SANDBOX (cutbox-rows.mjs): the forced cells as the released guide's own fill.sh prints them over the translation 8ce6616a1f6fafb2… (all of the seat's roots in one cut). By AI agents, Wed Nov 11 2026. No macro, syntax, notation, axiom, sorry.
-/
import Derived.Test.YbulkadowFmtChecked
import GoSem.Claim
import GoSem.ClaimJoined
import GoSem.ClaimMapViews
import Derived.JoinedTies
import Derived.KernelRfl
namespace Go.Proofs.YbulkadowFmt
/- THE CELL 'sum', in the pinned program and in every row, IS THE sha256 OF THE DUMP (.gsa) THAT YbulkadowFmtProg.lean LOADS. Nothing in Lean hashes anything: it is a label: what it is worth is what the hold of that sum in a sandbox is worth. -/
noncomputable def Ybaf.pinned : Pinned := { name := "ybulkadowfmt", sum := "8ce6616a1f6fafb2cd721a297793511cefdf846135b34967a430f72429c867f0", checked := Ybaf.checked }
namespace Rows
def none {H : Type} : Left H := { results := [], args := [] }

/-- 'admit-one.LawS1478BWords': WHATEVER THE INPUT: true; the input reads as it did. -/
def lawS1478BWordsSpec : ChangeSpec := { name := "lawS1478BWords", fn := fun _ => fun
  | [d1, d2, d3] => { results := [.lit (.bool true)], args := [d1, d2, d3] }
  | _ => none }
def lawS1478BWordsRow : OpenClaim := { program := "ybulkadowfmt", sum := "8ce6616a1f6fafb2cd721a297793511cefdf846135b34967a430f72429c867f0", func := "example.com/admit-one/admit-one.LawS1478BWords", spec := "lawS1478BWords", stops := ["fmt.Sprintf"], inPlace := ["fmt.Sprintf"], apart := false }
/-- NO THEOREM (fmt's text is open here; it may be false): for the released tool's asking of the row's closed facts alone. THE STATEMENT IS 'LawS1478BWordsToldSaid' (YbulkadowFmtCards.lean). -/
def LawS1478BWordsFormAsk : Prop := lawS1478BWordsRow.holds Ybaf.pinned (OpenSpec.ofChange lawS1478BWordsSpec)

/-- ITS FALSE NEIGHBOUR: 'it returns false'. Refute it at one input. -/
def lawS1478BWordsWrong : ChangeSpec := { name := "lawS1478BWords", fn := fun _ => fun
  | [d1, d2, d3] => { results := [.lit (.bool false)], args := [d1, d2, d3] }
  | _ => none }
def LawS1478BWordsWrongFormAsk : Prop := lawS1478BWordsRow.holds Ybaf.pinned (OpenSpec.ofChange lawS1478BWordsWrong)

/-- 'admit-one.LawS1478BAsDecision': WHATEVER THE INPUT: true; the input reads as it did. -/
def lawS1478BAsDecisionSpec : ChangeSpec := { name := "lawS1478BAsDecision", fn := fun _ => fun
  | [d1, d2, d3, d4] => { results := [.lit (.bool true)], args := [d1, d2, d3, d4] }
  | _ => none }
def lawS1478BAsDecisionRow : OpenClaim := { program := "ybulkadowfmt", sum := "8ce6616a1f6fafb2cd721a297793511cefdf846135b34967a430f72429c867f0", func := "example.com/admit-one/admit-one.LawS1478BAsDecision", spec := "lawS1478BAsDecision", stops := ["fmt.Sprintf"], inPlace := ["fmt.Sprintf"], apart := false }
/-- NO THEOREM (fmt's text is open here; it may be false): for the released tool's asking of the row's closed facts alone. THE STATEMENT IS 'LawS1478BAsDecisionToldSaid' (YbulkadowFmtCards.lean). -/
def LawS1478BAsDecisionFormAsk : Prop := lawS1478BAsDecisionRow.holds Ybaf.pinned (OpenSpec.ofChange lawS1478BAsDecisionSpec)

/-- ITS FALSE NEIGHBOUR: 'it returns false'. Refute it at one input. -/
def lawS1478BAsDecisionWrong : ChangeSpec := { name := "lawS1478BAsDecision", fn := fun _ => fun
  | [d1, d2, d3, d4] => { results := [.lit (.bool false)], args := [d1, d2, d3, d4] }
  | _ => none }
def LawS1478BAsDecisionWrongFormAsk : Prop := lawS1478BAsDecisionRow.holds Ybaf.pinned (OpenSpec.ofChange lawS1478BAsDecisionWrong)

end Rows
end Go.Proofs.YbulkadowFmt
