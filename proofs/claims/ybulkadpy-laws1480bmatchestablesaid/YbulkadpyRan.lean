/-
  The law's recorder: Ran.
-/
import Derived.Test.YbulkadpyRelAll
import Derived.Deep.RegionLawGrows
import Derived.Deep.RegionWith
namespace Go.Proofs.Ybulkadpy
open Go.RowKit
open Go.ChangeMaps (setBlock)

theorem Yba.info51 : (Yba.prog.info? 51).map (fun i => (i.zero, i.size, i.bytes)) = some (some (.agg #[.int .u8 0, .int .i64 0, .string ⟨#[]⟩]), 3, 32) := by kernel_rfl

/-- The three cells of the operation that the law's recorder is told. -/
def opC (num : Int) : List Value := [.int .u8 4, .int .i64 num, .string ⟨#[]⟩]

theorem owns_one {w : World} {base : Nat} {e : TypeId} {v : Value} {xs : List Value} {k : Nat} (h : w.ownsRow base e k v 1 xs) :
    ∃ g cap cur, v = .slice (some ⟨g, 0, none⟩) 1 cap ∧ base ≤ g ∧ 1 ≤ cap ∧ w.heap[g]? = some (.cells cur e (0, 0)) ∧ ∀ (i : Nat) (x : Value), xs[i]? = some x → cur[i]? = some x := by
  obtain ⟨hl, ⟨_, h1⟩ | ⟨g, cap, cur, rfl, hb, hg, hc, _, _, ht⟩⟩ := h
  · cases h1
  · refine ⟨g, cap, cur, rfl, hb, hc, hg, fun i x hx => ?_⟩
    rw [← ht] at hx
    have hi : i < 1 * k := by
      have := (List.getElem?_eq_some_iff.1 hx).1
      rw [List.length_take] at this
      omega
    rw [List.getElem?_take, if_pos hi] at hx
    simpa using hx

theorem cell_three_new (w : World) (o : Obj) (a b c : Value) (t : TypeId) : ∀ (j : Nat) (u : Value), [a, b, c][j]? = some u → (((w.alloc o).alloc (.cells #[a, b, c] t)).drew).cell? ((⟨w.heap.size + 1, 0, none⟩ : Addr).add j) = some u := by
  intro j u hj
  have hlt : j < 3 := by simpa using (List.getElem?_eq_some_iff.1 hj).1
  have e : (w.alloc o).heap.size = w.heap.size + 1 := by show (w.heap.push o).size = _; simp
  rw [Go.WideShapes.add_plain]
  have h := heap_alloc_new (w.alloc o) (.cells #[a, b, c] t)
  rw [e] at h
  show ((w.alloc o).alloc (.cells #[a, b, c] t)).cell? _ = _
  refine cell_of h ?_
  rw [← hj]
  simp

set_option maxRecDepth 100000 in
set_option maxHeartbeats 1000000 in
theorem ran_any (N : Nat) (num : Int) (w : World) (hR : w.heap[N]? = some (.cells #[.slice none 0 0, .int .i64 0] 26 (0, 0))) :
    Calls Yba.prog 96 #[.pointer (some ⟨N, 0, none⟩), .agg #[.int .u8 4, .int .i64 num, .string ⟨#[]⟩]] w fun e w' => e = .returned (.tuple #[]) ∧
      ∃ g cap cur, w'.heap[N]? = some (.cells #[.slice (some ⟨g, 0, none⟩) 1 cap, .int .i64 0] 26 (0, 0)) ∧ w.heap.size ≤ g ∧ 1 ≤ cap ∧ w'.heap[g]? = some (.cells cur 51 (0, 0)) ∧ (∀ (i : Nat) (x : Value), (opC num)[i]? = some x → cur[i]? = some x) ∧ Chg (fun b => b = N) w w' := by
  obtain ⟨i0, hi, hz0, hz1, hz2⟩ := info_parts Yba.info51
  have c0 : w.cell? ⟨N, 0, none⟩ = some (.slice none 0 0) := cell_of hR rfl
  have f0 : w.frozen? ⟨N, 0, none⟩ = false := frozen_of hR
  have hlt : N < w.heap.size := heap_lt hR
  go_enter Yba.func96, Yba.ntmps96
  go_wp2
  go_region_law (refine step_append_grows rfl (.tmp 8) (.tmp 10) 24 rfl 51 i0 (.agg #[.int .u8 0, .int .i64 0, .string ⟨#[]⟩]) 3 32 Yba.underlying24 hi hz0 hz1 hz2 rfl (by decide) none 0 0 [] (by simp [Act.eval]) (fun _ => ⟨rfl, rfl⟩) rfl (fun b h => by cases h) ⟨w.heap.size + 1, 0, none⟩ 1 1 (opC num) (by simp [Act.eval]) rfl (cell_three_new _ _ _ _ _ _) (by intro u hu; simp [opC] at hu; rcases hu with rfl | rfl | rfl <;> rfl) (by omega) (by unfold maxLen; omega) (by omega) ?_; intro v' w1 hown hgrow; obtain ⟨g, cap, cur, hv', hg1, hg2, hg3, hg4⟩ := owns_one hown; rw [hv']; clear hown hv'; have hN1 : w1.heap[N]? = some (.cells #[.slice none 0 0, .int .i64 0] 26 (0, 0)) := (((Chg.refl (fun _ => False) w).alloc _).alloc _).drew.grown hgrow (fun k h => by cases h) |>.keep hR (fun h => h); have hC1 : Chg (fun _ => False) w w1 := (((Chg.refl (fun _ => False) w).alloc _).alloc _).drew.grown hgrow (fun k h => by cases h); have c1 : w1.cell? ⟨N, 0, none⟩ = some (.slice none 0 0) := cell_of hN1 rfl; have f1 : w1.frozen? ⟨N, 0, none⟩ = false := frozen_of hN1)
  all_goals
    go_wp2
    go_end0
    have hgN : g ≠ N := fun e => by rw [e] at hg1; simp at hg1; omega
    have hcx : Chg (fun b => b = N) w1 (w1.setCell ⟨N, 0, none⟩ (.slice (some ⟨g, 0, none⟩) 1 cap)) := (Chg.refl (fun b => b = N) _).setCell ⟨N, 0, none⟩ rfl _
    exact ⟨rfl, g, cap, cur, heap_setCell_same hN1 _, by simp at hg1; omega, hg2, hcx.keep hg3 hgN, hg4, (hC1.mono (fun _ _ h => h.elim)).trans hcx⟩

end Go.Proofs.Ybulkadpy
