/-
  LawS1480BMatchesTable: what both walks lean on.
-/
import Derived.Test.YbulkadpyFin
import Derived.Deep.CutBlock
namespace Go.Proofs.Ybulkadpy
open Go.RowKit

theorem newItem_any (w : World) : Calls Yba.prog 6 #[] w fun e w' => e = .returned (.pointer (some ⟨w.heap.size + 1, 0, none⟩)) ∧ w' = (w.alloc (.map #[] 0)).alloc (.cells #[.map (some w.heap.size), .pointer none, .slice none 0 0, .int .i64 0, .pointer none, .pointer none, .pointer none, .pointer none, .slice none 0 0, .int .i64 0, .slice none 0 0, .int .i64 0, .int .i64 0, .bool false] 68) := by
  have hmm := @run_makeMap Yba.prog
  go_enter Yba.func6, Yba.ntmps6
  go_wp2
  go_ret
  exact ⟨rfl, rfl⟩

/-- A slice that came in, its elements read by f. -/
def Came (w : World) (ao : Option Addr) (n cap : Nat) (f : Nat → Value) : Prop := ∀ i, i < n → ∃ b off, ao = some ⟨b, off, none⟩ ∧ n ≤ cap ∧ b < w.heap.size ∧ w.cell? ⟨b, off + i, none⟩ = some (f i)

end Go.Proofs.Ybulkadpy
