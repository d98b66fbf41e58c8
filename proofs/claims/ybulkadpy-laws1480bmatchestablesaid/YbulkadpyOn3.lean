/-
  add$1, IndexFunc, DeleteFunc, Compact over a row of lockers that all wait on the list.
-/
import Derived.Test.YbulkadpyOn2
namespace Go.Proofs.Ybulkadpy
open Go.RowKit
open Go.ChangeMaps (setBlock)

/-- A cell stands over what turns no block. -/
theorem Chg.cell {w w' : World} (h : Chg (fun _ => False) w w') {p : Addr} {v : Value} (hv : w.cell? p = some v) : w'.cell? p = some v :=
  (World.cell?_of_block (w := w) (a := p) (h.block p.block (Lib.lt_of_cell hv) (fun h => h))).trans hv

theorem On.chg {w w' : World} {it l u : Nat} (h : On w it l u) (hc : Chg (fun _ => False) w w') : On w' it l u := by
  obtain ⟨q, m, h1, h2, h3, h4⟩ := h
  exact ⟨q, m, hc.cell h1, hc.cell h2, hc.cell h3, h4⟩

theorem add1_any (it l u B C D : Nat) (w : World) (h : On w it l u) (hB : w.cell? ⟨B, 0, none⟩ = some (.pointer (some ⟨it, 0, none⟩))) (hC : w.cell? ⟨C, 0, none⟩ = some (.int .i64 l)) (hD : w.cell? ⟨D, 0, none⟩ = some (onF B C)) :
    Calls Yba.prog 48 #[.pointer (some ⟨u, 0, none⟩), .pointer (some ⟨D, 0, none⟩)] w fun e w' => e = .returned (.bool false) ∧ Chg (fun _ => False) w w' := by
  have H1 : Hid (Calls Yba.prog 53 #[.pointer (some ⟨u, 0, none⟩), .pointer (some ⟨B, 0, none⟩), .pointer (some ⟨C, 0, none⟩)] w fun e w' => e = .returned (.bool true) ∧ Chg (fun _ => False) w w') := on1_any it l u B C w h hB hC
  have hD' : w.cell? ⟨D, 0, none⟩ = some (.func (.func 53) #[] #[.pointer (some ⟨B, 0, none⟩), .pointer (some ⟨C, 0, none⟩)]) := hD
  clear hB hC hD h
  go_enter Yba.func48, Yba.ntmps48
  go_wp2_with (go_at_call 53; refine H1.out.mono ?_; rintro e w1 ⟨rfl, hc1⟩)
  go_ret
  exact ⟨by simp, hc1⟩

/-- The row in memory: nothing there, or a block of its own. -/
structure RowAt (w : World) (ao : Option Addr) (R : Nat) (U : Nat → Nat) (T : Nat → Int) (n cap : Nat) : Prop where
  srt : Srt w R U T n
  ptr : ao = some ⟨R, 0, none⟩ ∨ n = 0
  cap : n ≤ cap

set_option maxRecDepth 100000 in
set_option maxHeartbeats 1000000 in
theorem indexF_any (it l B C D : Nat) (w : World) (R : Nat) (U : Nat → Nat) (T : Nat → Int) (n cap : Nat) (hn : n ≤ 300) (hS : Srt w R U T n) (h : ∀ i, i < n → On w it l (U i)) (hB : w.cell? ⟨B, 0, none⟩ = some (.pointer (some ⟨it, 0, none⟩))) (hC : w.cell? ⟨C, 0, none⟩ = some (.int .i64 l)) (hD : w.cell? ⟨D, 0, none⟩ = some (onF B C)) :
    Calls Yba.prog 63 #[.slice (some ⟨R, 0, none⟩) n cap, .func (.func 48) #[] #[.pointer (some ⟨D, 0, none⟩)]] w fun e w' => e = .returned (.int .i64 (-1)) ∧ Chg (fun _ => False) w w' := by
  have H : Hid (Srt w R U T n ∧ ∀ i wr, i < n → Chg (fun _ => False) w wr → Calls Yba.prog 48 #[.pointer (some ⟨U i, 0, none⟩), .pointer (some ⟨D, 0, none⟩)] wr fun e w' => e = .returned (.bool false) ∧ Chg (fun _ => False) w w') :=
    ⟨hS, fun i wr hi hc => (add1_any it l (U i) B C D wr ((h i hi).chg hc) (hc.cell hB) (hc.cell hC) (hc.cell hD)).mono fun e w' ⟨he, hw⟩ => ⟨he, hc.trans hw⟩⟩
  clear hS h hB hC hD
  go_enter Yba.func63, Yba.ntmps63
  go_wp2
  go_loopw [8] (fun vi wr => ∃ i : Nat, i ≤ n ∧ vi = .int .i64 i ∧ Chg (fun _ => False) w wr) (fun vi _ => n - (intOf vi).toNat)
  case atStart => exact ⟨0, by omega, rfl, Chg.refl _ _⟩
  case round =>
    obtain ⟨i, hi, rfl, hc⟩ := hrel
    by_cases hlt : i < n
    · have i1 : (i : Int) < (n : Int) := by omega
      have hc1 : wr.cell? ⟨R, i, none⟩ = some (.pointer (some ⟨U i, 0, none⟩)) := hc.cell (H.out.1.at_ i hlt).1
      have H2 : Hid (Calls Yba.prog 48 #[.pointer (some ⟨U i, 0, none⟩), .pointer (some ⟨D, 0, none⟩)] wr fun e w' => e = .returned (.bool false) ∧ Chg (fun _ => False) w w') := H.out.2 i wr hlt hc
      go_wp2_with (go_at_call 48; refine H2.out.mono ?_; rintro e w1 ⟨rfl, hc1⟩)
      go_roundw
      case rel => exact ⟨i + 1, by omega, by go_num, hc1⟩
      case measure => simp [intOf]; omega
    · have hd : decide ((i : Int) < (n : Int)) = false := decide_eq_false (by omega)
      go_wp2
      go_ret
      exact ⟨rfl, hc⟩

set_option maxRecDepth 100000 in
set_option maxHeartbeats 1000000 in
theorem indexF_nil (ao : Option Addr) (cap : Nat) (f : Value) (w : World) :
    Calls Yba.prog 63 #[.slice ao 0 cap, f] w fun e w' => e = .returned (.int .i64 (-1)) ∧ Chg (fun _ => False) w w' := by
  go_enter Yba.func63, Yba.ntmps63
  go_wp2
  refine wp_loop_rounds 1 ?_
  rw [rounds_succ]
  go_wp2
  go_ret
  exact ⟨rfl, Chg.refl _ _⟩

set_option maxRecDepth 100000 in
set_option maxHeartbeats 1000000 in
theorem deleteF_any (it l B C D : Nat) (w : World) (ao : Option Addr) (R : Nat) (U : Nat → Nat) (T : Nat → Int) (n cap : Nat) (hn : n ≤ 300) (hS : RowAt w ao R U T n cap) (h : ∀ i, i < n → On w it l (U i)) (hB : w.cell? ⟨B, 0, none⟩ = some (.pointer (some ⟨it, 0, none⟩))) (hC : w.cell? ⟨C, 0, none⟩ = some (.int .i64 l)) (hD : w.cell? ⟨D, 0, none⟩ = some (onF B C)) :
    Calls Yba.prog 47 #[.slice ao n cap, .func (.func 48) #[] #[.pointer (some ⟨D, 0, none⟩)]] w fun e w' => e = .returned (.slice ao n cap) ∧ Chg (fun _ => False) w w' := by
  have H : Hid (Calls Yba.prog 63 #[.slice ao n cap, .func (.func 48) #[] #[.pointer (some ⟨D, 0, none⟩)]] w fun e w' => e = .returned (.int .i64 (-1)) ∧ Chg (fun _ => False) w w') := by
    rcases hS.ptr with rfl | rfl
    · exact indexF_any it l B C D w R U T n cap hn hS.srt h hB hC hD
    · exact indexF_nil ao cap _ w
  clear hS h hB hC hD
  go_enter Yba.func47, Yba.ntmps47
  go_wp2_with (go_at_call 63; refine H.out.mono ?_; rintro e w1 ⟨rfl, hc1⟩)
  go_ret
  exact ⟨rfl, hc1⟩

/-- The lockers' blocks are plain, and no two of the row are one. -/
def Dis (w : World) (U : Nat → Nat) (n : Nat) : Prop := ∀ i, i < n → Pl w (U i)

theorem Srt.ne {w : World} {R : Nat} {U : Nat → Nat} {T : Nat → Int} {n : Nat} (h : Srt w R U T n) {i j : Nat} (hij : i < j) (hj : j < n) : U i ≠ U j := fun e => by
  have h1 := (h.at_ i (by omega)).2
  have h2 := (h.at_ j hj).2
  rw [e, h2] at h1
  have := h.up i j hij hj
  simp at h1
  omega

set_option maxRecDepth 100000 in
set_option maxHeartbeats 1000000 in
theorem compactP_short (ao : Option Addr) (n cap : Nat) (hn : n < 2) (w : World) :
    Calls Yba.prog 52 #[.slice ao n cap] w fun e w' => e = .returned (.slice ao n cap) ∧ Chg (fun _ => False) w w' := by
  have i1 : (n : Int) < 2 := by omega
  go_enter Yba.func52, Yba.ntmps52
  go_wp2
  go_ret
  exact ⟨rfl, Chg.refl _ _⟩

set_option maxRecDepth 100000 in
set_option maxHeartbeats 2000000 in
theorem compactP_long (w : World) (R : Nat) (U : Nat → Nat) (T : Nat → Int) (n cap : Nat) (h2 : 2 ≤ n) (hn : n ≤ 300) (hS : Srt w R U T n) (hD : Dis w U n) :
    Calls Yba.prog 52 #[.slice (some ⟨R, 0, none⟩) n cap] w fun e w' => e = .returned (.slice (some ⟨R, 0, none⟩) n cap) ∧ Chg (fun _ => False) w w' := by
  have hd2 : decide ((n : Int) < 2) = false := decide_eq_false (by omega)
  obtain ⟨j48, hj48, hz48⟩ := info_of Yba.info48 (by decide)
  have H : Hid (Srt w R U T n ∧ Dis w U n ∧ Yba.prog.info? 48 = some j48) := ⟨hS, hD, hj48⟩
  clear hS hD hj48
  go_enter Yba.func52, Yba.ntmps52
  go_wp2
  go_loopw [3] (fun vi wr => ∃ i : Nat, 1 ≤ i ∧ i ≤ n ∧ vi = .int .i64 i ∧ Chg (fun _ => False) w wr) (fun vi _ => n - (intOf vi).toNat)
  case atStart => exact ⟨1, by omega, by omega, rfl, Chg.refl _ _⟩
  case round =>
    obtain ⟨i, h1, hi, rfl, hc⟩ := hrel
    by_cases hlt : i < n
    · obtain ⟨j, hj⟩ : ∃ j, i = j + 1 := ⟨i - 1, by omega⟩
      have ha1 : wr.cell? ⟨R, i, none⟩ = some (.pointer (some ⟨U i, 0, none⟩)) := hc.cell (H.out.1.at_ i hlt).1
      have hb1 : wr.cell? ⟨R, j, none⟩ = some (.pointer (some ⟨U j, 0, none⟩)) := hc.cell (H.out.1.at_ j (by omega)).1
      have hne : U j ≠ U i := H.out.1.ne (by omega) hlt
      have hq : ∀ m, (binOp .eql 54 (.pointer (some ⟨U i, 0, none⟩)) (.pointer (some ⟨U j, 0, none⟩))).run Yba.prog (wr.drewN m) = .ok (.bool false) (wr.drewN m) := fun m => by
        obtain ⟨ca, ta, hp1⟩ := H.out.2.1 i hlt
        obtain ⟨cb, tb, hp2⟩ := H.out.2.1 j (by omega)
        exact run_eql_ptr_other _ Yba.underlying54 H.out.2.2 hz48 (fun e => hne (congrArg Addr.block e).symm) ((hc.drewN m).keep hp1 (fun h => h)) ((hc.drewN m).keep hp2 (fun h => h))
      have i1 : (i : Int) < (n : Int) := by omega
      have i2 : (j : Int) < (n : Int) := by omega
      have e3 : IntKind.i64.wrap ((i : Int) - 1) = (j : Int) := wrap_pred i j hj (by omega)
      clear hj hne
      go_wp2
      go_quiet (fail)
      go_wp2
      go_roundw
      case rel => exact ⟨i + 1, by omega, by omega, by go_num, hc.drewN _⟩
      case measure => simp [intOf]; omega
    · have hd : decide ((i : Int) < (n : Int)) = false := decide_eq_false (by omega)
      go_wp2
      go_ret
      exact ⟨rfl, hc⟩

theorem compactP_any (w : World) (ao : Option Addr) (R : Nat) (U : Nat → Nat) (T : Nat → Int) (n cap : Nat) (hn : n ≤ 300) (hS : RowAt w ao R U T n cap) (hD : Dis w U n) :
    Calls Yba.prog 52 #[.slice ao n cap] w fun e w' => e = .returned (.slice ao n cap) ∧ Chg (fun _ => False) w w' := by
  rcases Nat.lt_or_ge n 2 with h | h
  · exact compactP_short ao n cap h w
  · rcases hS.ptr with rfl | rfl
    · exact compactP_long w R U T n cap h hn hS.srt hD
    · omega

end Go.Proofs.Ybulkadpy
