/-
  What the listed variables give the walks (the cell of ErrSyntax); a start that meets the list (the heap that the door's own run leaves); a slice of bytes that came in.
-/
import Derived.Test.YbulkadowDoorRows
import Derived.ProofKit
import Derived.LaidMore
import Derived.OpenShut
import Derived.Stop.Joined
import Derived.Stop.LaidErr
namespace Go.Proofs.YbulkadowDoor
open Go.ChangeShapes Go.WideShapes Go.ChangeAt Go.RowKit

theorem own : ownKnob Ybad.prog.godebug = none := by kernel_rfl
theorem laidOut : laidOutB Ybad.prog = true := by kernel_rfl
theorem gSyn : Ybad.prog.globalNamed "strconv.ErrSyntax" = some 0 := by kernel_rfl
theorem tSyn : (Ybad.prog.globals[0]?).map (·.type) = some 30 := by kernel_rfl

/-- The door's own heap meets the list. -/
theorem door_met (os : Os) (args : Array Value) : laidMetH Ybad.prog Rows.lawS1478AAgreesRow.laid ((World.doorLaid Ybad.prog 62 os).forCall (fun _ _ => 0) ⟨#[], args, []⟩).memory :=
  laidMetH_of_parts3 (fuel := 8) (laidMet_of_run' 8 (by kernel_rfl) (by kernel_rfl)) (by kernel_rfl) (by kernel_rfl)

theorem syn_of_laid {W : World} (h : laidMetH Ybad.prog Rows.lawS1478AAgreesRow.laid W) : ∃ ev, W.cell? ⟨0, 0, none⟩ = some ev ∧ (ev = .nilIface ∨ ∃ te pe, ev = .iface te pe) := by
  rw [MakeChecks.laidMetH_plain _ _ _ (by kernel_rfl)] at h
  have h1 := h.tail.tail.tail.tail
  obtain ⟨a1, s1, hv1, _, _, _⟩ := laid_sentinel h1 gSyn tSyn Ybad.underlying30 (fun u hu => typeName_ptr_named (nm := "errors.errorString") (by kernel_rfl) (by kernel_rfl) (by decide) u (hu.trans (by decide))) Ybad.underlying47 Ybad.underlying49 rfl rfl Ybad.underlying9 (by kernel_rfl) (by kernel_rfl)
  exact ⟨_, by simpa using World.var?_cell gSyn hv1 0, .inr ⟨_, _, rfl⟩⟩

/-- WHAT THE WALK IS TOLD OF A SLICE OF BYTES THAT CAME IN. -/
def IsRow (k : IntKind) (w : World) (a : Option Addr) (len cap : Nat) (zs : List Int) : Prop :=
  (a = none ∧ len = 0 ∧ cap = 0 ∧ zs = []) ∨
  ∃ x, a = some x ∧ len ≤ cap ∧ cap ≤ maxLen ∧ zs.length = cap ∧ (∀ i, i < zs.length → w.cell? (x.add i) = some (.int k (zs.getD i 0))) ∧ ∀ n ∈ zs, (Lit.int k n).wf = true

end Go.Proofs.YbulkadowDoor
