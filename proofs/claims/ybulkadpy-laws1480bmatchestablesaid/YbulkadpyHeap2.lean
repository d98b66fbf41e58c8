/-
  container/heap's up, Push over an ageHeap whose last is the youngest.
-/
import Derived.Test.YbulkadpyHeap
namespace Go.Proofs.Ybulkadpy
open Go.RowKit
open Go.ChangeMaps (setBlock)

theorem method_less (a : Addr) (W : World) : (method 302 134 (.pointer (some a)) "Less").run Yba.prog W = .ok (110, .pointer (some a)) W := by kernel_rfl
theorem method_len (a : Addr) (W : World) : (method 302 134 (.pointer (some a)) "Len").run Yba.prog W = .ok (109, .pointer (some a)) W := by kernel_rfl
theorem method_push (a : Addr) (W : World) : (method 302 134 (.pointer (some a)) "Push").run Yba.prog W = .ok (112, .pointer (some a)) W := by kernel_rfl

set_option maxRecDepth 100000 in
set_option maxHeartbeats 1000000 in
theorem len_any (I o : Nat) (a : Option Addr) (n cap : Nat) (w : World) (h : w.cell? ⟨I, o, none⟩ = some (.slice a n cap)) :
    Calls Yba.prog 109 #[.pointer (some ⟨I, o, none⟩)] w fun e w' => e = .returned (.int .i64 n) ∧ w' = w := by
  go_enter Yba.func109, Yba.ntmps109
  go_wp2
  go_ret
  exact ⟨rfl, rfl⟩

set_option maxRecDepth 100000 in
set_option maxHeartbeats 1000000 in
theorem less_any (I o R : Nat) (U : Nat → Nat) (T : Nat → Int) (n cap i j : Nat) (w : World) (h : w.cell? ⟨I, o, none⟩ = some (.slice (some ⟨R, 0, none⟩) n cap)) (hS : Srt w R U T n) (hij : i < j) (hj : j < n) :
    Calls Yba.prog 110 #[.pointer (some ⟨I, o, none⟩), .int .i64 j, .int .i64 i] w fun e w' => e = .returned (.bool false) ∧ ∃ m, w' = w.drewN m := by
  obtain ⟨a1, a2⟩ := hS.at_ i (by omega)
  obtain ⟨b1, b2⟩ := hS.at_ j hj
  have hT := hS.up i j hij hj
  have i1 : (i : Int) < (n : Int) := by omega
  have i2 : (j : Int) < (n : Int) := by omega
  have hd : decide (T j < T i) = false := decide_eq_false (by omega)
  have HS : Hid (Srt w R U T n) := hS
  clear hS hT
  go_enter Yba.func110, Yba.ntmps110
  go_wp2
  go_quiet (fail)
  go_wp2
  go_ret
  exact ⟨by first | rfl | simp [hd], _, rfl⟩

set_option maxRecDepth 100000 in
set_option maxHeartbeats 1000000 in
theorem up_zero (I o : Nat) (w : World) :
    Calls Yba.prog 43 #[.iface 134 (.pointer (some ⟨I, o, none⟩)), .int .i64 0] w fun e w' => e = .returned (.tuple #[]) ∧ ∃ m, w' = w.drewN m := by
  go_enter Yba.func43, Yba.ntmps43
  go_wp2
  refine wp_loop_rounds 1 ?_
  rw [rounds_succ]
  go_wp2
  go_end0
  exact ⟨rfl, 0, rfl⟩

set_option maxRecDepth 100000 in
set_option maxHeartbeats 1000000 in
theorem up_any (I o R : Nat) (U : Nat → Nat) (T : Nat → Int) (n cap : Nat) (w : World) (h : w.cell? ⟨I, o, none⟩ = some (.slice (some ⟨R, 0, none⟩) (n + 1) cap)) (hS : Srt w R U T (n + 1)) (hn : n ≤ 300) (h1 : 1 ≤ n) :
    Calls Yba.prog 43 #[.iface 134 (.pointer (some ⟨I, o, none⟩)), .int .i64 n] w fun e w' => e = .returned (.tuple #[]) ∧ ∃ m, w' = w.drewN m := by
  have hml := method_less
  have HL : Hid (Calls Yba.prog 110 #[.pointer (some ⟨I, o, none⟩), .int .i64 n, .int .i64 (((n : Int) - 1) / 2)] w fun e w' => e = .returned (.bool false) ∧ ∃ m, w' = w.drewN m) := by
    have := less_any I o R U T (n + 1) cap ((n - 1) / 2) n w h hS (by omega) (by omega)
    rw [show (((n - 1) / 2 : Nat) : Int) = ((n : Int) - 1) / 2 by omega] at this
    exact this
  have hd : decide (((n : Int) - 1) / 2 = (n : Int)) = false := decide_eq_false (by omega)
  clear hS h
  go_enter Yba.func43, Yba.ntmps43
  go_wp2
  refine wp_loop_rounds 1 ?_
  rw [rounds_succ]
  go_wp2_with (go_at_call 110; refine HL.out.mono ?_; rintro e w1 ⟨rfl, k, rfl⟩)
  go_end0
  exact ⟨rfl, k, rfl⟩

end Go.Proofs.Ybulkadpy
