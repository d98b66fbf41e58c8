/-
  slices.SortFunc over a row of lockers whose times increase, second part.
-/
import Derived.Test.YbulkadpySrt
namespace Go.Proofs.Ybulkadpy
open Go.RowKit
open Go.ChangeMaps (setBlock)

set_option maxRecDepth 100000 in
set_option maxHeartbeats 1000000 in
theorem medAdj_any (R : Nat) (U : Nat → Nat) (T : Nat → Int) (n cap i : Nat) (sw : Value) (w : World) (h : Srt w R U T n) (hi : 1 ≤ i) (hb : i + 1 < n) (hn : n ≤ 300) :
    Calls Yba.prog 77 #[.slice (some ⟨R, 0, none⟩) n cap, .int .i64 i, sw, .func (.func 50) #[] #[]] w fun e w' => e = .returned (.int .i64 i) ∧ ∃ m, w' = w.drewN m := by
  have H1 : Hid (Calls Yba.prog 78 #[.slice (some ⟨R, 0, none⟩) n cap, .int .i64 ((i : Int) - 1), .int .i64 i, .int .i64 ((i : Int) + 1), sw, .func (.func 50) #[] #[]] w fun e w' => e = .returned (.int .i64 i) ∧ ∃ m, w' = w.drewN m) := by
    have := median_any R U T n cap (i - 1) i (i + 1) sw w h (by omega) (by omega) hb
    rw [show ((i - 1 : Nat) : Int) = (i : Int) - 1 by omega, show ((i + 1 : Nat) : Int) = (i : Int) + 1 by omega] at this
    exact this
  clear h
  go_enter Yba.func77, Yba.ntmps77
  go_wp2_with (go_at_call 78; refine H1.out.mono ?_; rintro e w' ⟨rfl, k1, rfl⟩)
  go_ret
  exact ⟨rfl, _, rfl⟩

def MA (R n cap : Nat) (i : Int) (sw : Value) (w : World) : Prop := ∀ m, Calls Yba.prog 77 #[.slice (some ⟨R, 0, none⟩) n cap, .int .i64 i, sw, .func (.func 50) #[] #[]] (w.drewN m) fun e w' => e = .returned (.int .i64 i) ∧ ∃ k, w' = w.drewN k
def MD (R n cap : Nat) (a b c : Int) (sw : Value) (w : World) : Prop := ∀ m, Calls Yba.prog 78 #[.slice (some ⟨R, 0, none⟩) n cap, .int .i64 a, .int .i64 b, .int .i64 c, sw, .func (.func 50) #[] #[]] (w.drewN m) fun e w' => e = .returned (.int .i64 b) ∧ ∃ k, w' = w.drewN k

theorem ma_any (R : Nat) (U : Nat → Nat) (T : Nat → Int) (n cap : Nat) (i : Int) (sw : Value) (w : World) (h : Srt w R U T n) (hi : 1 ≤ i) (hb : i + 1 < n) (hn : n ≤ 300) : MA R n cap i sw w := by
  obtain ⟨i, rfl⟩ : ∃ k : Nat, i = k := ⟨i.toNat, by omega⟩
  exact fun m => (medAdj_any R U T n cap i sw _ (h.drewN m) (by omega) (by omega) hn).mono fun e w' ⟨he, k, hk⟩ => ⟨he, m + k, by rw [hk, World.drewN_drewN]⟩
theorem md_any (R : Nat) (U : Nat → Nat) (T : Nat → Int) (n cap : Nat) (a b c : Int) (sw : Value) (w : World) (h : Srt w R U T n) (h0 : 0 ≤ a) (hab : a < b) (hbc : b < c) (hb : c < n) : MD R n cap a b c sw w := by
  obtain ⟨a, rfl⟩ : ∃ k : Nat, a = k := ⟨a.toNat, by omega⟩
  obtain ⟨b, rfl⟩ : ∃ k : Nat, b = k := ⟨b.toNat, by omega⟩
  obtain ⟨c, rfl⟩ : ∃ k : Nat, c = k := ⟨c.toNat, by omega⟩
  exact fun m => (median_any R U T n cap a b c sw _ (h.drewN m) (by omega) (by omega) (by omega)).mono fun e w' ⟨he, k, hk⟩ => ⟨he, m + k, by rw [hk, World.drewN_drewN]⟩

set_option maxRecDepth 100000 in
set_option maxHeartbeats 2000000 in
theorem pivot_any (R : Nat) (U : Nat → Nat) (T : Nat → Int) (n cap : Nat) (w : World) (h : Srt w R U T n) (h16 : 16 ≤ n) (hn : n ≤ 300) :
    Calls Yba.prog 71 #[.slice (some ⟨R, 0, none⟩) n cap, .int .i64 0, .int .i64 n, .func (.func 50) #[] #[]] w fun e w' => (∃ p : Int, e = .returned (.tuple #[.int .i64 p, .int .i64 1])) ∧ Chg (fun _ => False) w w' := by
  have hc0 : Chg (fun _ => False) w (w.alloc (.cells #[.int .i64 0] 3)) := (Chg.refl _ _).alloc _
  have h1 : Srt (w.alloc (.cells #[.int .i64 0] 3)) R U T n := h.chg hc0 (fun h => h) (fun _ _ h => h)
  have HC : Hid (Chg (fun _ => False) w (w.alloc (.cells #[.int .i64 0] 3))) := hc0
  have A1 : Hid (MA R n cap ((n : Int) / 4) (.pointer (some ⟨w.heap.size, 0, none⟩)) (w.alloc (.cells #[.int .i64 0] 3))) := ma_any R U T n cap _ _ _ h1 (by omega) (by omega) hn
  have A2 : Hid (MA R n cap ((n : Int) / 4 * 2) (.pointer (some ⟨w.heap.size, 0, none⟩)) (w.alloc (.cells #[.int .i64 0] 3))) := ma_any R U T n cap _ _ _ h1 (by omega) (by omega) hn
  have A3 : Hid (MA R n cap ((n : Int) / 4 * 3) (.pointer (some ⟨w.heap.size, 0, none⟩)) (w.alloc (.cells #[.int .i64 0] 3))) := ma_any R U T n cap _ _ _ h1 (by omega) (by omega) hn
  have A4 : Hid (MD R n cap ((n : Int) / 4) ((n : Int) / 4 * 2) ((n : Int) / 4 * 3) (.pointer (some ⟨w.heap.size, 0, none⟩)) (w.alloc (.cells #[.int .i64 0] 3))) := md_any R U T n cap _ _ _ _ _ h1 (by omega) (by omega) (by omega) (by omega)
  clear hc0 h1 h
  have hc : (w.alloc (.cells #[.int .i64 0] 3)).cell? ⟨w.heap.size, 0, none⟩ = some (.int .i64 0) := cell_of (heap_alloc_new _ _) rfl
  go_enter Yba.func71, Yba.ntmps71
  by_cases h50 : n < 50
  · have hd : decide ((50 : Int) ≤ (n : Int)) = false := decide_eq_false (by omega)
    go_wp2_with (go_at_call 78; refine (show Calls _ _ _ (w.alloc (.cells #[.int .i64 0] 3)) _ from A4.out 0).mono ?_; rintro e w' ⟨rfl, k1, rfl⟩)
    go_ret2
    exact ⟨⟨_, rfl⟩, HC.out.drewN _⟩
  · go_wp2_with (first
      | (go_at_call 77; refine (show Calls _ _ _ (w.alloc (.cells #[.int .i64 0] 3)) _ from A1.out 0).mono ?_; clear A1; rintro e w' ⟨rfl, k1, rfl⟩)
      | (go_at_call 77; refine (A2.out k1).mono ?_; clear A2; rintro e w' ⟨rfl, k2, rfl⟩)
      | (go_at_call 77; refine (A3.out k2).mono ?_; clear A3; rintro e w' ⟨rfl, k3, rfl⟩)
      | (go_at_call 78; refine (A4.out k3).mono ?_; clear A4; rintro e w' ⟨rfl, k4, rfl⟩))
    go_ret2
    exact ⟨⟨_, rfl⟩, HC.out.drewN _⟩

end Go.Proofs.Ybulkadpy
