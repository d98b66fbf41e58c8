/-
  ageHeap: Len, Less, Push; container/heap's up, Push.
-/
import Derived.Test.YbulkadpyOn3
import Derived.Test.YbulkadpyRelAll
import Derived.Deep.AppendLies
import Derived.Deep.RegionLaw
namespace Go.Proofs.Ybulkadpy
open Go.RowKit
open Go.ChangeMaps (setBlock)

theorem Yba.info54 : (Yba.prog.info? 54).map (fun i => (i.zero, i.size, i.bytes)) = some (some (.pointer none), 1, 8) := by kernel_rfl

def lp (u : Nat) : Value := .pointer (some ⟨u, 0, none⟩)

theorem lit_one (w : World) (u : Nat) (t : TypeId) : ∀ (j : Nat) (x : Value), [lp u][j]? = some x → (w.alloc (.cells #[lp u] t)).drew.cell? ((⟨w.heap.size, 0, none⟩ : Addr).add j) = some x := by
  intro j x hj
  have hlt : j < 1 := by simpa using (List.getElem?_eq_some_iff.1 hj).1
  rw [Go.WideShapes.add_plain]
  refine cell_of (heap_alloc_new w _) ?_
  rw [← hj]
  simp

theorem assert54 (u : Nat) (W : World) : (Instr.typeAssert (.iface 54 (.pointer (some ⟨u, 0, none⟩))) 20 54 false).run Yba.prog W = .ok (.pointer (some ⟨u, 0, none⟩)) W := by kernel_rfl

/-- The block I holds, at o, a slice that owns its row. -/
structure HeapAt (w : World) (base I o : Nat) (c : Array Value) (ti : TypeId) (v : Value) (n : Nat) (xs : List Value) : Prop where
  hI : w.heap[I]? = some (.cells c ti (0, 0))
  ho : c[o]? = some v
  row : w.ownsRow base 54 1 v n xs
  ne : v.ownBlock ≠ some I
  base : base ≤ w.heap.size

set_option maxRecDepth 100000 in
set_option maxHeartbeats 1000000 in
theorem pushM_any (w : World) (base I o : Nat) (c : Array Value) (ti : TypeId) (v : Value) (n : Nat) (xs : List Value) (u : Nat) (h : HeapAt w base I o c ti v n xs) (hn : n ≤ 300) :
    Calls Yba.prog 112 #[.pointer (some ⟨I, o, none⟩), .iface 54 (.pointer (some ⟨u, 0, none⟩))] w fun e w' => e = .returned (.tuple #[]) ∧
      ∃ g cap, w'.heap[I]? = some (.cells (c.setIfInBounds o (.slice (some ⟨g, 0, none⟩) (n + 1) cap)) ti (0, 0)) ∧ w'.ownsRow base 54 1 (.slice (some ⟨g, 0, none⟩) (n + 1) cap) (n + 1) (xs ++ [lp u]) ∧
        (v.ownBlock = some g ∨ w.heap.size ≤ g) ∧ Chg (fun b => b = I ∨ v.ownBlock = some b) w w' := by
  obtain ⟨i0, hi, hz0, hz1, hz2⟩ := info_parts Yba.info54
  obtain ⟨a0, cp0, hv, _⟩ := owns_form h.row
  have co : w.cell? ⟨I, o, none⟩ = some v := cell_of h.hI h.ho
  have fo : w.frozen? ⟨I, o, none⟩ = false := frozen_of h.hI
  have H : Hid (HeapAt w base I o c ti v n xs) := h
  have HI : Hid (Yba.prog.info? 54 = some i0 ∧ i0.zero = some (.pointer none) ∧ i0.size = 1 ∧ i0.bytes = 8) := ⟨hi, hz0, hz1, hz2⟩
  have hlt : I < w.heap.size := heap_lt h.hI
  have hta := assert54 u
  clear h hi hz0 hz1 hz2
  subst hv
  go_enter Yba.func112, Yba.ntmps112
  go_wp2
  go_region_law (refine step_append_lies _ rfl (.tmp 8) (.tmp 11) 59 rfl base 54 i0 (.pointer none) 1 8 Yba.underlying59 HI.out.1 HI.out.2.1 HI.out.2.2.1 HI.out.2.2.2 rfl (by decide) (.slice a0 n cp0) n xs (by simp [Act.eval]) ((H.out.row.alloc _).drew) ⟨w.heap.size, 0, none⟩ 1 1 [lp u] (by simp [Act.eval]) rfl (lit_one _ _ _) (by intro x hx; simp at hx; subst hx; rfl) (by omega) (by unfold maxLen; omega) (by omega) (by have := H.out.base; simp; omega) (w.heap.size + 1) (by simp) ?_; intro g cap w1 hown hgrow hwhere hg1; have hC1 : Chg (fun b => (Value.slice a0 n cp0).ownBlock = some b) w w1 := ((Chg.refl _ w).alloc _).drew.grown hgrow (fun k hk _ => hk); have hN1 : w1.heap[I]? = some (.cells c ti (0, 0)) := hC1.keep H.out.hI H.out.ne; have c1 : w1.cell? ⟨I, o, none⟩ = some (.slice a0 n cp0) := cell_of hN1 H.out.ho; have f1 : w1.frozen? ⟨I, o, none⟩ = false := frozen_of hN1; have HK : Hid (w1.ownsRow base 54 1 (.slice (some ⟨g, 0, none⟩) (n + 1) cap) (n + 1) (xs ++ [lp u]) ∧ ((Value.slice a0 n cp0).ownBlock = some g ∨ g = w.heap.size + 1) ∧ Chg (fun b => (Value.slice a0 n cp0).ownBlock = some b) w w1 ∧ w1.heap[I]? = some (.cells c ti (0, 0))) := ⟨hown, hwhere, hC1, hN1⟩; clear hown hgrow hwhere hC1 hN1)
  all_goals
    go_wp2
    go_end0
    have hgI : g ≠ I := fun e => by
      rcases HK.out.2.1 with h1 | h1
      · rw [e] at h1; exact H.out.ne h1
      · omega
    have hcx : Chg (fun b => b = I) w1 (w1.setCell ⟨I, o, none⟩ (.slice (some ⟨g, 0, none⟩) (n + 1) cap)) := (Chg.refl (fun b => b = I) _).setCell ⟨I, o, none⟩ rfl _
    refine ⟨rfl, g, cap, heap_setCell_same HK.out.2.2.2 _, ?_, ?_, (HK.out.2.2.1.mono (fun _ _ h => .inr h)).trans (hcx.mono (fun _ _ h => .inl h))⟩
    · obtain ⟨hl, hh⟩ := HK.out.1
      refine ⟨hl, ?_⟩
      rcases hh with ⟨h1, h2⟩ | ⟨g', cp', cur, h1, h2, h3, h4⟩
      · exact .inl ⟨h1, h2⟩
      · exact .inr ⟨g', cp', cur, h1, h2, hcx.keep h3 (fun e => hgI (by cases h1; exact e)), h4⟩
    · rcases HK.out.2.1 with h1 | h1
      · exact .inl h1
      · exact .inr (by omega)

end Go.Proofs.Ybulkadpy
