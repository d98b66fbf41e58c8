/-
  slices.SortFunc over a row of lockers whose times increase: it leaves the row as it is.
-/
import Derived.Test.YbulkadpyRelease
import Derived.Deep.QuietTactic
import Derived.BigQuiet
namespace Go.Proofs.Ybulkadpy
open Go.RowKit
open Go.ChangeMaps (setBlock)

/-- The first n cells of block R point to lockers whose times increase. -/
structure Srt (w : World) (R : Nat) (U : Nat → Nat) (T : Nat → Int) (n : Nat) : Prop where
  at_ : ∀ i, i < n → w.cell? ⟨R, i, none⟩ = some (.pointer (some ⟨U i, 0, none⟩)) ∧ w.cell? ⟨U i, 1, none⟩ = some (.int .i64 (T i))
  up : ∀ i j, i < j → j < n → T i < T j

theorem Srt.drewN {w : World} {R : Nat} {U : Nat → Nat} {T : Nat → Int} {n : Nat} (h : Srt w R U T n) (m : Nat) : Srt (w.drewN m) R U T n := ⟨h.at_, h.up⟩

theorem Srt.chg {S : Nat → Prop} {w w' : World} {R : Nat} {U : Nat → Nat} {T : Nat → Int} {n : Nat} (h : Srt w R U T n) (hc : Chg S w w') (hR : ¬ S R) (hU : ∀ i, i < n → ¬ S (U i)) : Srt w' R U T n :=
  ⟨fun i hi => ⟨(World.cell?_of_block (w := w) (a := ⟨R, i, none⟩) (hc.block R (Lib.lt_of_cell (h.at_ i hi).1) hR)).trans (h.at_ i hi).1,
    (World.cell?_of_block (w := w) (a := ⟨U i, 1, none⟩) (hc.block (U i) (Lib.lt_of_cell (h.at_ i hi).2) (hU i hi))).trans (h.at_ i hi).2⟩, h.up⟩

theorem isNaN_i64 (x : Int) (w : World) : Calls Yba.prog 65 #[.int .i64 x] w fun e w' => e = .returned (.bool false) ∧ w' = w := by
  go_enter Yba.func65, Yba.ntmps65
  go_wp2
  go_ret
  simp

theorem cmp64_gt (x y : Int) (h : y < x) (w : World) : Calls Yba.prog 51 #[.int .i64 x, .int .i64 y] w fun e w' => e = .returned (.int .i64 1) ∧ w' = w := by
  have h1 : ¬ x < y := by omega
  have h2 : decide (x < y) = false := decide_eq_false h1
  have h3 : decide (y < x) = true := decide_eq_true h
  go_enter Yba.func51, Yba.ntmps51
  go_wp2_with (go_at_call 65; refine (isNaN_i64 _ _).mono ?_; rintro e w' ⟨rfl, rfl⟩)
  go_ret
  exact ⟨rfl, rfl⟩

theorem add2_gt (u v : Nat) (x y : Int) (h : y < x) (w : World) (hu : w.cell? ⟨u, 1, none⟩ = some (.int .i64 x)) (hv : w.cell? ⟨v, 1, none⟩ = some (.int .i64 y)) :
    Calls Yba.prog 50 #[.pointer (some ⟨u, 0, none⟩), .pointer (some ⟨v, 0, none⟩)] w fun e w' => e = .returned (.int .i64 1) ∧ ∃ m, w' = w.drewN m := by
  go_enter Yba.func50, Yba.ntmps50
  go_wp2
  go_quiet (first | (go_at_call 51; refine Calls.quiet_of_same (cmp64_gt _ _ h _)))
  go_wp2
  go_ret
  exact ⟨rfl, _, rfl⟩

/-- The comparing function's value. -/
def cmpF : Value := .func (.func 50) #[] #[]

set_option maxRecDepth 100000 in
set_option maxHeartbeats 1000000 in
theorem order2_any (R : Nat) (U : Nat → Nat) (T : Nat → Int) (n cap a b : Nat) (sw : Value) (w : World) (h : Srt w R U T n) (hab : a < b) (hb : b < n) :
    Calls Yba.prog 79 #[.slice (some ⟨R, 0, none⟩) n cap, .int .i64 a, .int .i64 b, sw, .func (.func 50) #[] #[]] w fun e w' => e = .returned (.tuple #[.int .i64 a, .int .i64 b]) ∧ ∃ m, w' = w.drewN m := by
  obtain ⟨ha1, ha2⟩ := h.at_ a (by omega)
  obtain ⟨hb1, hb2⟩ := h.at_ b hb
  have hlt : T a < T b := h.up a b hab hb
  have i1 : (a : Int) < (n : Int) := by omega
  have i2 : (b : Int) < (n : Int) := by omega
  have H : Hid (Srt w R U T n) := h
  clear h
  go_enter Yba.func79, Yba.ntmps79
  go_wp2
  go_quiet (first | (go_at_call 50; refine Calls.quiet_of (add2_gt _ _ _ _ hlt _ ?_ ?_) <;> assumption))
  go_wp2
  go_ret2
  exact ⟨rfl, _, rfl⟩

/-- What order2 answers, in whatever world that has only drawn since. -/
def O2 (R n cap a b : Nat) (sw : Value) (w : World) : Prop := ∀ m, Calls Yba.prog 79 #[.slice (some ⟨R, 0, none⟩) n cap, .int .i64 a, .int .i64 b, sw, .func (.func 50) #[] #[]] (w.drewN m) fun e w' => e = .returned (.tuple #[.int .i64 a, .int .i64 b]) ∧ ∃ k, w' = w.drewN k

theorem o2_any (R : Nat) (U : Nat → Nat) (T : Nat → Int) (n cap a b : Nat) (sw : Value) (w : World) (h : Srt w R U T n) (hab : a < b) (hb : b < n) : O2 R n cap a b sw w :=
  fun m => (order2_any R U T n cap a b sw _ (h.drewN m) hab hb).mono fun e w' ⟨he, k, hk⟩ => ⟨he, m + k, by rw [hk, World.drewN_drewN]⟩

set_option maxRecDepth 100000 in
set_option maxHeartbeats 1000000 in
theorem median_any (R : Nat) (U : Nat → Nat) (T : Nat → Int) (n cap a b c : Nat) (sw : Value) (w : World) (h : Srt w R U T n) (hab : a < b) (hbc : b < c) (hb : c < n) :
    Calls Yba.prog 78 #[.slice (some ⟨R, 0, none⟩) n cap, .int .i64 a, .int .i64 b, .int .i64 c, sw, .func (.func 50) #[] #[]] w fun e w' => e = .returned (.int .i64 b) ∧ ∃ m, w' = w.drewN m := by
  have H1 : Hid (O2 R n cap a b sw w) := o2_any R U T n cap a b sw w h hab (by omega)
  have H2 : Hid (O2 R n cap b c sw w) := o2_any R U T n cap b c sw w h hbc (by omega)
  have H3 : Hid (O2 R n cap a b sw w) := H1
  clear h
  go_enter Yba.func78, Yba.ntmps78
  go_wp2_with (first
    | (go_at_call 79; refine (show Calls _ _ _ w _ from H1.out 0).mono ?_; clear H1; rintro e w' ⟨rfl, k1, rfl⟩)
    | (go_at_call 79; refine (H2.out k1).mono ?_; clear H2; rintro e w' ⟨rfl, k2, rfl⟩)
    | (go_at_call 79; refine (H3.out k2).mono ?_; clear H3; rintro e w' ⟨rfl, k3, rfl⟩))
  go_ret
  exact ⟨rfl, _, rfl⟩

end Go.Proofs.Ybulkadpy
