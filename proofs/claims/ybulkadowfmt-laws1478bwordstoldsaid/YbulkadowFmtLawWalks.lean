/-
  THE WALKS of seat b1478aF: LawS1478BWords, LawS1478BAsDecision. fmt.Sprintf is never come to.
-/
import Derived.Test.YbulkadowFmtRows
import Derived.WalkKit
import Derived.WalkSpells
import Derived.WalkLawsBesides
namespace Go.Proofs.YbulkadowFmt
open Go.RowKit

theorem ret_bool {b : Bool} (h : b = true) : Ending.returned (.bool b) = .returned (.bool true) := by rw [h]

set_option maxHeartbeats 400000 in
theorem words_any (sel : Int) (rule : ByteArray) (w : World) (h0 : 0 ≤ sel) (h1 : sel ≤ 255) :
    Calls Ybaf.prog 3 #[.int .u8 sel, .string rule, .bool true] w fun e w' => e = .returned (.bool true) ∧ Below w.heap.size w w' := by
  by_cases hs : (sel % 2 == 1) = true
  all_goals
    first | rw [Bool.not_eq_true] at hs | skip
    go_enter Ybaf.func3, Ybaf.ntmps3
    go_wp2
    go_ret
    exact ⟨rfl, ((Below.refl _ _).alloc (Nat.le_refl _) _).alloc (by simp) _⟩

set_option maxHeartbeats 400000 in
theorem words_empty (sel : Int) (w : World) (h0 : 0 ≤ sel) (h1 : sel ≤ 255) :
    Calls Ybaf.prog 3 #[.int .u8 sel, .string ⟨#[]⟩, .bool false] w fun e w' => e = .returned (.bool true) ∧ Below w.heap.size w w' := by
  by_cases hs : (sel % 2 == 1) = true
  all_goals
    first | rw [Bool.not_eq_true] at hs | skip
    go_enter Ybaf.func3, Ybaf.ntmps3
    go_wp2
    go_ret
    exact ⟨ret_bool (by decide +kernel), (((Below.refl _ _).alloc (Nat.le_refl _) _).alloc (by simp) _).alloc (by simp; omega) _⟩

set_option maxHeartbeats 400000 in
theorem words_full (sel : Int) (rule : ByteArray) (w : World) (h0 : 0 ≤ sel) (h1 : sel ≤ 255) (hl : rule.size ≤ 140737488355328) (hr : rule.toList.isEmpty = false) :
    Calls Ybaf.prog 3 #[.int .u8 sel, .string rule, .bool false] w fun e w' => e = .returned (.bool true) ∧ Below w.heap.size w w' := by
  by_cases hs : (sel % 2 == 1) = true
  all_goals
    first | rw [Bool.not_eq_true] at hs | skip
    go_enter Ybaf.func3, Ybaf.ntmps3
    go_wp2
    go_ret
    refine ⟨ret_bool ?_, (((Below.refl _ _).alloc (Nat.le_refl _) _).alloc (by simp) _).alloc (by simp; omega) _⟩
    simp

end Go.Proofs.YbulkadowFmt
