/-
  waitsOn$1, add$1, IndexFunc, DeleteFunc, Compact over a row of lockers that all wait on the list.
-/
import Derived.Test.YbulkadpyOn
namespace Go.Proofs.Ybulkadpy
open Go.RowKit
open Go.ChangeMaps (setBlock)

/-- Locker u waits, by a request for item it that stands on list l. -/
def On (w : World) (it : Nat) (l : Nat) (u : Nat) : Prop :=
  ∃ q m, w.cell? ⟨u, 6, none⟩ = some (.pointer (some ⟨q, 0, none⟩)) ∧ w.cell? ⟨q, 1, none⟩ = some (.pointer (some ⟨it, 0, none⟩)) ∧ w.cell? ⟨q, 2, none⟩ = some (.int .u8 m) ∧ (m = 2 ∧ (l = 0 ∨ l = 1) ∨ m = 1 ∧ l = 0)

set_option maxRecDepth 100000 in
set_option maxHeartbeats 1000000 in
theorem on1_any (it l u B C : Nat) (w : World) (h : On w it l u) (hB : w.cell? ⟨B, 0, none⟩ = some (.pointer (some ⟨it, 0, none⟩))) (hC : w.cell? ⟨C, 0, none⟩ = some (.int .i64 l)) :
    Calls Yba.prog 53 #[.pointer (some ⟨u, 0, none⟩), .pointer (some ⟨B, 0, none⟩), .pointer (some ⟨C, 0, none⟩)] w fun e w' => e = .returned (.bool true) ∧ Chg (fun _ => False) w w' := by
  obtain ⟨q, m, h6, h1, h2, hm⟩ := h
  obtain ⟨j68, hj68, hz68⟩ := info_of Yba.info68 (by decide)
  have hq : ∀ W : World, (binOp .eql 57 (.pointer (some ⟨it, 0, none⟩)) (.pointer (some ⟨it, 0, none⟩))).run Yba.prog W = .ok (.bool true) W := fun W => run_eql_ptr_same W _ Yba.underlying57 hj68
  have hnq : ∀ W : World, (binOp .neq 46 (.pointer (some ⟨q, 0, none⟩)) (.pointer none)).run Yba.prog W = .ok (.bool true) W := fun _ => by kernel_rfl
  have hm' : m = 1 ∨ m = 2 := by rcases hm with ⟨h, _⟩ | ⟨h, _⟩ <;> simp [h]
  have HL : Hid (Calls Yba.prog 25 #[.pointer (some ⟨q, 0, none⟩)] w.drew fun e w' => e = .returned (.slice (some ⟨w.heap.size, 0, none⟩) (litN m) (litN m)) ∧ w'.cell? ⟨C, 0, none⟩ = some (.int .i64 l) ∧ w'.heap[w.heap.size]? = some (litO m) ∧ Chg (fun _ => False) w w') :=
    (lists_any q m hm' w.drew h2).mono fun e w' ⟨he, hw⟩ => by
      have hc : Chg (fun _ => False) w w' := by rw [hw]; exact (Chg.refl _ _).drew.alloc _
      exact ⟨he, (World.cell?_of_block (w := w) (a := ⟨C, 0, none⟩) (hc.block C (Lib.lt_of_cell hC) (fun h => h))).trans hC, by rw [hw]; exact heap_alloc_new w.drew _, hc⟩
  have HM : Hid (m = 2 ∧ (l = 0 ∨ l = 1) ∨ m = 1 ∧ l = 0) := hm
  clear hm hm' hj68 hz68
  go_enter Yba.func53, Yba.ntmps53
  go_wp2
  go_region_with (first
    | (go_at_call 25; refine HL.out.mono ?_; rintro e w1 ⟨rfl, hC1, hg1, hc1⟩; have H1 : Hid (w1.heap[w.heap.size]? = some (litO m) ∧ Chg (fun _ => False) w w1) := ⟨hg1, hc1⟩; clear hg1 hc1)
    | (go_at_call 54; refine (contains_any m l HM.out w.heap.size _ H1.out.1).mono ?_; rintro e w2 ⟨rfl, rfl⟩))
  all_goals
    go_wp2
    go_ret
    exact ⟨rfl, H1.out.2⟩

end Go.Proofs.Ybulkadpy
