/-
  slices.SortFunc over a row of lockers whose times increase, fourth part: pdqsort, SortFunc.
-/
import Derived.Test.YbulkadpySrt3
namespace Go.Proofs.Ybulkadpy
open Go.RowKit
open Go.ChangeMaps (setBlock)

set_option maxRecDepth 100000 in
set_option maxHeartbeats 1000000 in
theorem insSort_nil (s f : Value) (w : World) : Calls Yba.prog 68 #[s, .int .i64 0, .int .i64 0, f] w fun e w' => e = .returned (.tuple #[]) ∧ w' = w := by
  go_enter Yba.func68, Yba.ntmps68
  go_wp2
  refine wp_loop_rounds 1 ?_
  rw [rounds_succ]
  go_wp2
  go_end0
  exact ⟨rfl, rfl⟩

set_option maxRecDepth 100000 in
set_option maxHeartbeats 2000000 in
theorem pdq_nil (s f : Value) (lim : Int) (w : World) : Calls Yba.prog 64 #[s, .int .i64 0, .int .i64 0, .int .i64 lim, f] w fun e w' => e = .returned (.tuple #[]) ∧ w' = w := by
  go_enter Yba.func64, Yba.ntmps64
  go_wp2
  refine wp_loop_rounds 1 ?_
  rw [rounds_succ]
  go_wp2_with (go_at_call 68; refine (insSort_nil _ _ _).mono ?_; rintro e w' ⟨rfl, rfl⟩)
  (try simp only [Exit.inBlock, Exit.then])
  refine bodyPost_ret (results_none rfl _ _ _) rfl ?_
  exact ⟨rfl, rfl⟩

set_option maxRecDepth 100000 in
set_option maxHeartbeats 2000000 in
theorem pdq_any (R : Nat) (U : Nat → Nat) (T : Nat → Int) (n cap : Nat) (lim : Int) (hl : lim ≠ 0) (w : World) (h : Srt w R U T n) (h16 : 16 ≤ n) (hn : n ≤ 300) :
    Calls Yba.prog 64 #[.slice (some ⟨R, 0, none⟩) n cap, .int .i64 0, .int .i64 n, .int .i64 lim, .func (.func 50) #[] #[]] w fun e w' => e = .returned (.tuple #[]) ∧ Chg (fun _ => False) w w' := by
  have H : Hid (Srt w R U T n) := h
  have hd : decide ((n : Int) ≤ 12) = false := decide_eq_false (by omega)
  have hd2 : decide (lim = 0) = false := decide_eq_false hl
  clear h
  go_enter Yba.func64, Yba.ntmps64
  go_wp2
  refine wp_loop_rounds 1 ?_
  rw [rounds_succ]
  go_wp2_with (first
    | (go_at_call 71; refine (pivot_any R U T n cap w H.out h16 hn).mono ?_; rintro e w1 ⟨⟨p, rfl⟩, hc1⟩; have H1 : Hid (Srt w1 R U T n ∧ Chg (fun _ => False) w w1) := ⟨H.out.chg hc1 (fun h => h) (fun _ _ h => h), hc1⟩; clear hc1)
    | (go_at_call 73; refine (partIns_any R U T n cap w1 H1.out.1 h16 hn).mono ?_; rintro e w2 ⟨rfl, k, rfl⟩))
  (try simp only [Exit.inBlock, Exit.then])
  refine bodyPost_ret (results_none rfl _ _ _) rfl ?_
  exact ⟨rfl, H1.out.2.drewN _⟩

end Go.Proofs.Ybulkadpy
