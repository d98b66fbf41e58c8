/-
  container/heap.Push, (*ageHeap).add over lockers in the order of their times.
-/
import Derived.Test.YbulkadpyAdd
namespace Go.Proofs.Ybulkadpy
open Go.RowKit
open Go.ChangeMaps (setBlock)

theorem Tms.snoc {w : World} {ts : Nat → Int} {us : List Nat} {t : Nat} (h : Tms w ts us) (ht : Lk w t (ts t)) (hl : ∀ u ∈ us, ts u < ts t) : Tms w ts (us ++ [t]) :=
  ⟨fun u hu => by rcases List.mem_append.1 hu with h1 | h1
                  · exact h.lk u h1
                  · simp at h1; subst h1; exact ht, List.pairwise_append.2 ⟨h.up, by simp, fun a ha b hb => by simp at hb; subst hb; exact hl a ha⟩⟩

/-- What heap.Push leaves. -/
def PushPost (w : World) (base I o : Nat) (c : Array Value) (v : Value) (us : List Nat) (t : Nat) (w' : World) : Prop :=
  ∃ g cap, w'.heap[I]? = some (.cells (c.setIfInBounds o (.slice (some ⟨g, 0, none⟩) (us.length + 1) cap)) 68 (0, 0)) ∧ w'.ownsRow base 54 1 (.slice (some ⟨g, 0, none⟩) (us.length + 1) cap) (us.length + 1) ((us ++ [t]).map lp) ∧
    (v.ownBlock = some g ∨ w.heap.size ≤ g) ∧ Chg (fun b => b = I ∨ v.ownBlock = some b) w w'

set_option maxRecDepth 100000 in
set_option maxHeartbeats 1000000 in
theorem heapPush_any (w : World) (base I o : Nat) (c : Array Value) (v : Value) (us : List Nat) (ts : Nat → Int) (t : Nat) (h : HeapAt w base I o c 68 v us.length (us.map lp)) (hn : us.length ≤ 300) (hT : Tms w ts us) (ht : Lk w t (ts t)) (hl : ∀ u ∈ us, ts u < ts t) :
    Calls Yba.prog 21 #[.iface 134 (.pointer (some ⟨I, o, none⟩)), .iface 54 (.pointer (some ⟨t, 0, none⟩))] w fun e w' => e = .returned (.tuple #[]) ∧ PushPost w base I o c v us t w' := by
  have hT2 := hT.snoc ht hl
  have H1 : Hid (Calls Yba.prog 112 #[.pointer (some ⟨I, o, none⟩), .iface 54 (.pointer (some ⟨t, 0, none⟩))] w fun e w' => e = .returned (.tuple #[]) ∧ (∃ g cap, w'.cell? ⟨I, o, none⟩ = some (.slice (some ⟨g, 0, none⟩) (us.length + 1) cap)) ∧ PushPost w base I o c v us t w' ∧
      Calls Yba.prog 43 #[.iface 134 (.pointer (some ⟨I, o, none⟩)), .int .i64 us.length] w' fun e w'' => e = .returned (.tuple #[]) ∧ ∃ m, w'' = w'.drewN m) :=
    (pushM_any w base I o c 68 v us.length (us.map lp) t h hn).mono fun e w' ⟨he, g, cap, h1, h2, h3, h4⟩ => by
      rw [show us.map lp ++ [lp t] = (us ++ [t]).map lp by simp] at h2
      have hTw : Tms w' ts (us ++ [t]) := hT2.chg h4 (fun u hu hb => by
        rcases hb with hb | hb
        · exact (hT2.lk u hu).neCells h.hI (by decide) hb
        · exact (hT2.lk u hu).neRow h.row hb)
      have hcell : w'.cell? ⟨I, o, none⟩ = some (.slice (some ⟨g, 0, none⟩) (us.length + 1) cap) := cell_of h1 (by
        have := (Array.getElem?_eq_some_iff.1 h.ho).1
        simp [this])
      refine ⟨he, ⟨g, cap, hcell⟩, ⟨g, cap, h1, h2, h3, h4⟩, ?_⟩
      obtain ⟨_, R, hR⟩ := rowAt_of (n := us.length + 1) (ao := some ⟨g, 0, none⟩) (cap := cap) (by simpa using h2) hTw
      have hgR : R = g := by rcases hR.ptr with h5 | h5 <;> simp at h5; exact h5.symm
      subst hgR
      by_cases h0 : us.length = 0
      · rw [h0]
        exact up_zero I o w'
      · have hs := hR.srt
        rw [List.length_append] at hs
        exact up_any I o R _ _ us.length cap w' hcell hs hn (by omega)
  have hmp := method_push
  have hml := method_len
  clear hT2 h hT ht hl
  go_enter Yba.func21, Yba.ntmps21
  go_wp2_with (first
    | (go_at_call 112; refine H1.out.mono ?_; rintro e w1 ⟨rfl, ⟨g, cap, hcell⟩, hpost, hup⟩; have HU : Hid (PushPost w base I o c v us t w1 ∧ Calls Yba.prog 43 #[.iface 134 (.pointer (some ⟨I, o, none⟩)), .int .i64 us.length] w1 fun e w'' => e = .returned (.tuple #[]) ∧ ∃ m, w'' = w1.drewN m) := ⟨hpost, hup⟩; clear hpost hup)
    | (go_at_call 109; refine (len_any I o (some ⟨g, 0, none⟩) (us.length + 1) cap w1 hcell).mono ?_; rintro e w2 ⟨rfl, rfl⟩)
    | (go_at_call 43; refine HU.out.2.mono ?_; rintro e w3 ⟨rfl, k, rfl⟩))
  go_end0
  refine ⟨rfl, ?_⟩
  obtain ⟨g, cap, h1, h2, h3, h4⟩ := HU.out.1
  exact ⟨g, cap, h1, h2, h3, h4.drewN _⟩

end Go.Proofs.Ybulkadpy
