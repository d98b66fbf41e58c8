/-
  DERIVED. GIVEN WITH THE SEED: THE CARDS: each row of YbulkadowDoorRows.lean that lists a variable, with what it lists TIED to the program's text (the seventh form; the later family's looks); each row that meets fmt, with fmt's text TOLD by the authors' own Lean function (tested against real Go, not proved from fmt's source: count such statements apart). THE CARD IS WHAT COUNTS. Prove the row's statement (the work); the ties are given (YbulkadowDoorTie.lean); close each card by the builder's one call (the guide's Derived/Test/ToyasCard.lean, 'card_holds'). Laid BY PROGRAM, IN A SANDBOX (cutbox-door.mjs). By AI agents, Wed Nov 11 2026. No macro, syntax, notation, axiom, sorry.
-/
import Derived.Test.YbulkadowDoorRows
import GoSem.ClaimSeven
namespace Go.Proofs.YbulkadowDoor
namespace Rows

/-- THE TIED CARD OF 'admit-one.LawS1478AAgrees'. -/
def lawS1478AAgreesCard : Claim7 := { stood := { row := lawS1478AAgreesRow, standIns := [], harness := (true, "5b829fe5426f6cbccee91db850db3a4665a3a0acadcb5f0d4243f213aa373aec"), looks := true }, kinds := [], alts := [], laidByText := true, laidKinds := [.data, .data, .data, .sentinel, .sentinel], laidTests := true, laidLooks := .later }
def LawS1478AAgreesCardSaid : Prop := Claim7.holds Ybad.pinned (.plain (OpenSpec.ofChange lawS1478AAgreesSpec)) lawS1478AAgreesCard

/-- THE TIED CARD OF 'admit-one.LawS1478ABuilt'. -/
def lawS1478ABuiltCard : Claim7 := { stood := { row := lawS1478ABuiltRow, standIns := [], harness := (true, "5b829fe5426f6cbccee91db850db3a4665a3a0acadcb5f0d4243f213aa373aec"), looks := true }, kinds := [], alts := [], laidByText := true, laidKinds := [.data, .data, .data, .sentinel, .sentinel], laidTests := true, laidLooks := .later }
def LawS1478ABuiltCardSaid : Prop := Claim7.holds Ybad.pinned (.plain (OpenSpec.ofChange lawS1478ABuiltSpec)) lawS1478ABuiltCard
end Rows
end Go.Proofs.YbulkadowDoor
