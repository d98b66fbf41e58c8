/-
  slices.SortFunc over a row of lockers whose times increase, third part.
-/
import Derived.Test.YbulkadpySrt2
import Derived.Lib.QuoteBits
namespace Go.Proofs.Ybulkadpy
open Go.RowKit
open Go.ChangeMaps (setBlock)

theorem wrap_pred (i j : Nat) (h : i = j + 1) (hi : i < 1000000) : IntKind.i64.wrap ((i : Int) - 1) = (j : Int) := by
  rw [show (i : Int) - 1 = (j : Int) by omega]
  exact Lib.wrap_i64_small j (by omega)

set_option maxRecDepth 100000 in
set_option maxHeartbeats 2000000 in
theorem partIns_any (R : Nat) (U : Nat → Nat) (T : Nat → Int) (n cap : Nat) (w : World) (h : Srt w R U T n) (h16 : 16 ≤ n) (hn : n ≤ 300) :
    Calls Yba.prog 73 #[.slice (some ⟨R, 0, none⟩) n cap, .int .i64 0, .int .i64 n, .func (.func 50) #[] #[]] w fun e w' => e = .returned (.bool true) ∧ ∃ m, w' = w.drewN m := by
  have H : Hid (Srt w R U T n) := h
  clear h
  go_enter Yba.func73, Yba.ntmps73
  go_wp2
  refine wp_loop_rounds 1 ?_
  rw [rounds_succ]
  go_wp2
  go_loopw [9] (fun vi wr => ∃ i m : Nat, 1 ≤ i ∧ i ≤ n ∧ vi = .int .i64 i ∧ wr = w.drewN m) (fun vi _ => n - (intOf vi).toNat)
  case atStart => exact ⟨1, 0, by omega, by omega, rfl, rfl⟩
  case round =>
    obtain ⟨i, m, h1, h2, rfl, hwr⟩ := hrel
    have HS : Hid (Srt wr R U T n) := by rw [hwr]; exact H.out.drewN m
    have HW : Hid (wr = w.drewN m) := hwr
    clear hwr H
    by_cases hlt : i < n
    · obtain ⟨j, hj⟩ : ∃ j, i = j + 1 := ⟨i - 1, by omega⟩
      obtain ⟨hb1, hb2⟩ := HS.out.at_ i hlt
      obtain ⟨ha1, ha2⟩ := HS.out.at_ j (by omega)
      have hT : T j < T i := HS.out.up _ _ (by omega) hlt
      have i1 : (i : Int) < (n : Int) := by omega
      have i2 : (j : Int) < (n : Int) := by omega
      have e3 : IntKind.i64.wrap ((i : Int) - 1) = (j : Int) := wrap_pred i j hj (by omega)
      clear hj
      go_wp2
      go_quiet (first | (go_at_call 50; exact Calls.quiet_of (add2_gt _ _ _ _ hT _ hb2 ha2)))
      go_wp2
      go_roundw
      case rel => exact ⟨i + 1, _, by omega, by omega, by go_num, by rw [HW.out, World.drewN_drewN]⟩
      case measure => simp [intOf]; omega
    · have hd : decide ((i : Int) < (n : Int)) = false := decide_eq_false (by omega)
      have hin : i = n := by omega
      subst hin
      go_wp2
      go_quiet (fail)
      go_wp2
      go_ret
      exact ⟨rfl, _, by rw [HW.out, World.drewN_drewN]⟩

end Go.Proofs.Ybulkadpy
