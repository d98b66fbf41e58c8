/-
  DERIVED. GIVEN WITH THE SEED: THE CARDS: each row of YbulkadowFmtRows.lean that lists a variable, with what it lists TIED to the program's text (the seventh form; the later family's looks); each row that meets fmt, with fmt's text TOLD by the authors' own Lean function (tested against real Go, not proved from fmt's source: count such statements apart). THE CARD IS WHAT COUNTS. Prove the row's statement (the work); the ties are given (YbulkadowFmtTie.lean); close each card by the builder's one call (the guide's Derived/Test/ToyasCard.lean, 'card_holds'). Laid BY PROGRAM, IN A SANDBOX (cutbox-door.mjs). By AI agents, Wed Nov 11 2026. No macro, syntax, notation, axiom, sorry.
-/
import Derived.Test.YbulkadowFmtRows
import GoSem.ClaimSeven
namespace Go.Proofs.YbulkadowFmt
namespace Rows

/-- THE TOLD CARD OF 'admit-one.LawS1478BWords'. -/
def lawS1478BWordsCard : Claim7 := { stood := { row := lawS1478BWordsRow, standIns := [], harness := (true, "cdd27fa9ec2541f0fa79f289e7b99be7120e50b15c3727037b1d6c97f5088445"), looks := false }, told := true, goes := false }
def LawS1478BWordsToldSaid : Prop := Claim7.holds Ybaf.pinned (.plain (OpenSpec.ofChange lawS1478BWordsSpec)) lawS1478BWordsCard
/-- ITS FALSE NEIGHBOUR. Refute it at one input. -/
def LawS1478BWordsToldWrongFalsely : Prop := Claim7.holds Ybaf.pinned (.plain (OpenSpec.ofChange lawS1478BWordsWrong)) lawS1478BWordsCard

/-- THE TOLD CARD OF 'admit-one.LawS1478BAsDecision'. -/
def lawS1478BAsDecisionCard : Claim7 := { stood := { row := lawS1478BAsDecisionRow, standIns := [], harness := (true, "cdd27fa9ec2541f0fa79f289e7b99be7120e50b15c3727037b1d6c97f5088445"), looks := false }, told := true, goes := false }
def LawS1478BAsDecisionToldSaid : Prop := Claim7.holds Ybaf.pinned (.plain (OpenSpec.ofChange lawS1478BAsDecisionSpec)) lawS1478BAsDecisionCard
/-- ITS FALSE NEIGHBOUR. Refute it at one input. -/
def LawS1478BAsDecisionToldWrongFalsely : Prop := Claim7.holds Ybaf.pinned (.plain (OpenSpec.ofChange lawS1478BAsDecisionWrong)) lawS1478BAsDecisionCard
end Rows
end Go.Proofs.YbulkadowFmt
