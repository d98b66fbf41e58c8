/-
  lists, waitsOn, waitsOn$1, add$1.
-/
import Derived.Test.YbulkadpySrt4
import Derived.Deep.RegionWith
namespace Go.Proofs.Ybulkadpy
open Go.RowKit
open Go.ChangeMaps (setBlock)

theorem lists_excl (q : Nat) (w : World) (h2 : w.cell? ⟨q, 2, none⟩ = some (.int .u8 2)) :
    Calls Yba.prog 25 #[.pointer (some ⟨q, 0, none⟩)] w fun e w' => e = .returned (.slice (some ⟨w.heap.size, 0, none⟩) 2 2) ∧ w' = w.alloc (.cells #[.int .i64 0, .int .i64 1] 3) := by
  go_enter Yba.func25, Yba.ntmps25
  go_wp2
  go_ret
  exact ⟨rfl, rfl⟩

theorem lists_shared (q : Nat) (w : World) (h2 : w.cell? ⟨q, 2, none⟩ = some (.int .u8 1)) :
    Calls Yba.prog 25 #[.pointer (some ⟨q, 0, none⟩)] w fun e w' => e = .returned (.slice (some ⟨w.heap.size, 0, none⟩) 1 1) ∧ w' = w.alloc (.cells #[.int .i64 0] 3) := by
  go_enter Yba.func25, Yba.ntmps25
  go_wp2
  go_ret
  exact ⟨rfl, rfl⟩

/-- The literal's world and length. -/
def litN (m : Int) : Nat := if m = 2 then 2 else 1
def litO (m : Int) : Obj := if m = 2 then .cells #[.int .i64 0, .int .i64 1] 3 else .cells #[.int .i64 0] 3

theorem lists_any (q : Nat) (m : Int) (hm : m = 1 ∨ m = 2) (w : World) (h2 : w.cell? ⟨q, 2, none⟩ = some (.int .u8 m)) :
    Calls Yba.prog 25 #[.pointer (some ⟨q, 0, none⟩)] w fun e w' => e = .returned (.slice (some ⟨w.heap.size, 0, none⟩) (litN m) (litN m)) ∧ w' = w.alloc (litO m) := by
  rcases hm with rfl | rfl
  · exact lists_shared q w h2
  · exact lists_excl q w h2

theorem index_first (g n cap : Nat) (x : Int) (w : World) (hn : 1 ≤ n) (h0 : w.cell? ⟨g, 0, none⟩ = some (.int .i64 x)) :
    Calls Yba.prog 66 #[.slice (some ⟨g, 0, none⟩) n cap, .int .i64 x] w fun e w' => e = .returned (.int .i64 0) ∧ w' = w := by
  have hn1 : (0 : Int) < (n : Int) := by omega
  go_enter Yba.func66, Yba.ntmps66
  go_wp2
  refine wp_loop_rounds 1 ?_
  rw [rounds_succ]
  go_wp2
  go_ret
  exact ⟨rfl, rfl⟩

theorem index_second (g n cap : Nat) (y x : Int) (w : World) (hn : 2 ≤ n) (hxy : x ≠ y) (h0 : w.cell? ⟨g, 0, none⟩ = some (.int .i64 y)) (h1 : w.cell? ⟨g, 1, none⟩ = some (.int .i64 x)) :
    Calls Yba.prog 66 #[.slice (some ⟨g, 0, none⟩) n cap, .int .i64 x] w fun e w' => e = .returned (.int .i64 1) ∧ w' = w := by
  have hn1 : (0 : Int) < (n : Int) := by omega
  have hn2 : (1 : Int) < (n : Int) := by omega
  have hd : decide (x = y) = false := decide_eq_false hxy
  go_enter Yba.func66, Yba.ntmps66
  go_wp2
  refine wp_loop_rounds 2 ?_
  rw [rounds_succ]
  go_wp2
  rw [rounds_succ]
  go_wp2
  go_ret
  exact ⟨rfl, rfl⟩

/-- 'slices.Contains(p.lists(), l)' of a request that stands on list l. -/
theorem contains_any (m : Int) (l : Nat) (hm : m = 2 ∧ (l = 0 ∨ l = 1) ∨ m = 1 ∧ l = 0) (g : Nat) (w : World) (hg : w.heap[g]? = some (litO m)) :
    Calls Yba.prog 54 #[.slice (some ⟨g, 0, none⟩) (litN m) (litN m), .int .i64 l] w fun e w' => e = .returned (.bool true) ∧ w' = w := by
  have hix : Calls Yba.prog 66 #[.slice (some ⟨g, 0, none⟩) (litN m) (litN m), .int .i64 l] w fun e w' => e = .returned (.int .i64 l) ∧ w' = w := by
    rcases hm with ⟨rfl, rfl | rfl⟩ | ⟨rfl, rfl⟩
    · exact index_first g 2 2 0 w (by omega) (cell_of hg rfl)
    · exact index_second g 2 2 0 1 w (by omega) (by omega) (cell_of hg rfl) (cell_of hg rfl)
    · exact index_first g 1 1 0 w (by omega) (cell_of hg rfl)
  have HX : Hid (Calls Yba.prog 66 #[.slice (some ⟨g, 0, none⟩) (litN m) (litN m), .int .i64 l] w fun e w' => e = .returned (.int .i64 l) ∧ w' = w) := hix
  have hl : (0 : Int) ≤ (l : Int) := by omega
  clear hix hg hm
  go_enter Yba.func54, Yba.ntmps54
  go_wp2_with (go_at_call 66; refine HX.out.mono ?_; rintro e w' ⟨rfl, rfl⟩)
  go_ret
  simp

/-- The function that waitsOn hands back: its two boxes. -/
def onF (B C : Nat) : Value := .func (.func 53) #[] #[.pointer (some ⟨B, 0, none⟩), .pointer (some ⟨C, 0, none⟩)]

theorem waitsOn_any (it : Nat) (l : Int) (w : World) :
    Calls Yba.prog 27 #[.pointer (some ⟨it, 0, none⟩), .int .i64 l] w fun e w' => e = .returned (onF w.heap.size (w.heap.size + 1)) ∧ w' = (w.alloc (.cells #[.pointer (some ⟨it, 0, none⟩)] 57)).alloc (.cells #[.int .i64 l] 3) := by
  go_enter Yba.func27, Yba.ntmps27
  go_wp2
  go_ret
  exact ⟨rfl, rfl⟩

end Go.Proofs.Ybulkadpy
