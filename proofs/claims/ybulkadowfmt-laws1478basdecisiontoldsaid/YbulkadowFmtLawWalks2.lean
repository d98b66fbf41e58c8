/-
  THE WALKS of seat b1478aF: LawS1478BAsDecision.
-/
import Derived.Test.YbulkadowFmtLawWalks
namespace Go.Proofs.YbulkadowFmt
open Go.RowKit

set_option maxHeartbeats 400000 in
theorem asdec_any (sel : Int) (rule other : ByteArray) (w : World) (h0 : 0 ≤ sel) (h1 : sel ≤ 255) :
    Calls Ybaf.prog 4 #[.int .u8 sel, .string rule, .string other, .bool true] w fun e w' => e = .returned (.bool true) ∧ Below w.heap.size w w' := by
  by_cases hs : (sel % 2 == 1) = true
  all_goals
    first | rw [Bool.not_eq_true] at hs | skip
    go_enter Ybaf.func4, Ybaf.ntmps4
    go_wp2
    go_ret
    exact ⟨rfl, ((((Below.refl _ _).alloc (Nat.le_refl _) _).alloc (by simp) _).alloc (by simp; omega) _).alloc (by simp; omega) _⟩

set_option maxHeartbeats 400000 in
theorem asdec_empty (sel : Int) (other : ByteArray) (w : World) (h0 : 0 ≤ sel) (h1 : sel ≤ 255) :
    Calls Ybaf.prog 4 #[.int .u8 sel, .string ⟨#[]⟩, .string other, .bool false] w fun e w' => e = .returned (.bool true) ∧ Below w.heap.size w w' := by
  by_cases hs : (sel % 2 == 1) = true
  all_goals
    first | rw [Bool.not_eq_true] at hs | skip
    go_enter Ybaf.func4, Ybaf.ntmps4
    go_wp2
    go_ret
    exact ⟨ret_bool (by decide +kernel), ((((Below.refl _ _).alloc (Nat.le_refl _) _).alloc (by simp) _).alloc (by simp; omega) _).alloc (by simp; omega) _⟩

set_option maxHeartbeats 400000 in
theorem asdec_full (sel : Int) (rule other : ByteArray) (w : World) (h0 : 0 ≤ sel) (h1 : sel ≤ 255) (hl : rule.size ≤ 140737488355328) (hr : rule.toList.isEmpty = false) :
    Calls Ybaf.prog 4 #[.int .u8 sel, .string rule, .string other, .bool false] w fun e w' => e = .returned (.bool true) ∧ Below w.heap.size w w' := by
  by_cases hs : (sel % 2 == 1) = true
  all_goals
    first | rw [Bool.not_eq_true] at hs | skip
    go_enter Ybaf.func4, Ybaf.ntmps4
    go_wp2
    go_ret
    refine ⟨ret_bool ?_, ((((Below.refl _ _).alloc (Nat.le_refl _) _).alloc (by simp) _).alloc (by simp; omega) _).alloc (by simp; omega) _⟩
    simp

end Go.Proofs.YbulkadowFmt
