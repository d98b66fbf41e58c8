/-
  (*lockReplay).abort at a transaction that waits for nothing.
-/
import Derived.Test.YbulkadpyRan
namespace Go.Proofs.Ybulkadpy
open Go.RowKit
open Go.ChangeMaps (setBlock)

/-- The replay's cells: its recorder is the law's. -/
def rC (N : Nat) : Array Value := #[.int .u8 0, .pointer none, .pointer none, .slice none 0 0, .iface 23 (.pointer (some ⟨N, 0, none⟩))]

theorem Items.chg {S : Nat → Prop} {N : Nat} {w w' : World} {L : List Ent} {j : Nat} (h : Items N w L j) (hc : Chg S w w') (hs : ∀ b, N + 6 ≤ b → ¬ S b) : Items N w' L j :=
  ⟨fun i e he => by
    have hge := h.ge e (List.mem_iff_getElem?.2 ⟨i, he⟩)
    have := h.at_ i e he
    exact ⟨hc.keep this.1 (hs _ hge.1), hc.keep this.2 (hs _ hge.2)⟩, h.nI, h.nM, h.ge⟩

theorem Held.chg {S : Nat → Prop} {N : Nat} {w w' : World} {v : Value} {L : List Ent} (h : Held N w v L) (hc : Chg S w w') (hs : ∀ b, N + 6 ≤ b → ¬ S b) : Held N w' v L := by
  obtain ⟨hl, hh⟩ := h
  refine ⟨hl, ?_⟩
  rcases hh with h1 | ⟨g, cap, cur, h1, h2, h3, h4⟩
  · exact .inl h1
  · exact .inr ⟨g, cap, cur, h1, h2, hc.keep h3 (hs g h2), h4⟩

theorem Items.lt {N : Nat} {w : World} {L : List Ent} {j : Nat} (h : Items N w L j) {b : Nat} (hb : ∃ e ∈ L, b = e.I ∨ b = e.M) : b < w.heap.size := by
  obtain ⟨e, he, h1⟩ := hb
  obtain ⟨i, hi⟩ := List.mem_iff_getElem?.1 he
  rcases h1 with rfl | rfl
  · exact heap_lt (h.at_ i e hi).1
  · exact heap_lt (h.at_ i e hi).2

theorem method_ran (a : Addr) (W : World) : (method 302 23 (.pointer (some a)) "Ran").run Yba.prog W = .ok (96, .pointer (some a)) W := by kernel_rfl

set_option maxRecDepth 100000 in
set_option maxHeartbeats 1000000 in
theorem abort_any (N : Nat) (w : World) (num : Int) (v : Value) (L : List Ent) (hlen : L.length ≤ 256) (hR : w.heap[N]? = some (.cells #[.slice none 0 0, .int .i64 0] 26 (0, 0))) (hr : w.heap[N + 1]? = some (.cells (rC N) 36 (0, 0)))
    (hC : Core N w num 0 v (awE 0 L) L.length) (hI : Items N w L 0) (hH : Held N w v L) :
    Calls Yba.prog 5 #[.pointer (some ⟨N + 1, 0, none⟩), .pointer (some ⟨N + 2, 0, none⟩)] w fun e w' => e = .returned (.tuple #[]) ∧
      ∃ g cap cur, w'.heap[N]? = some (.cells #[.slice (some ⟨g, 0, none⟩) 1 cap, .int .i64 0] 26 (0, 0)) ∧ 1 ≤ cap ∧ w'.heap[g]? = some (.cells cur 51 (0, 0)) ∧ (∀ (i : Nat) (x : Value), (opC num)[i]? = some x → cur[i]? = some x) ∧
        Core N w' num 2 (.slice none 0 0) [] L.length ∧ Items N w' L L.length ∧ Chg (fun b => b = N ∨ Turn N L b) w w' := by
  have c0 : w.cell? ⟨N + 2, 0, none⟩ = some (.int .i64 num) := cell_of hC.hT rfl
  have c2 : w.cell? ⟨N + 2, 2, none⟩ = some (.int .u8 0) := cell_of hC.hT rfl
  have f2 : w.frozen? ⟨N + 2, 2, none⟩ = false := frozen_of hC.hT
  have c6 : w.cell? ⟨N + 2, 6, none⟩ = some (.pointer none) := cell_of hC.hT rfl
  have r4 : w.cell? ⟨N + 1, 4, none⟩ = some (.iface 23 (.pointer (some ⟨N, 0, none⟩))) := cell_of hr rfl
  have hmeth := method_ran
  have hw1 : Chg (fun b => b = N + 2) w ((w.setCell ⟨N + 2, 2, none⟩ (.int .u8 2)).drew) := ((Chg.refl (fun b => b = N + 2) _).setCell ⟨N + 2, 2, none⟩ rfl _).drew
  have hR1 : (w.setCell ⟨N + 2, 2, none⟩ (.int .u8 2)).drew.heap[N]? = some (.cells #[.slice none 0 0, .int .i64 0] 26 (0, 0)) := hw1.keep hR (by omega)
  have HRAN : Hid (Calls Yba.prog 96 #[.pointer (some ⟨N, 0, none⟩), .agg #[.int .u8 4, .int .i64 num, .string ⟨#[]⟩]] (w.setCell ⟨N + 2, 2, none⟩ (.int .u8 2)).drew fun e w' => e = .returned (.tuple #[]) ∧
      ∃ g cap cur, w'.heap[N]? = some (.cells #[.slice (some ⟨g, 0, none⟩) 1 cap, .int .i64 0] 26 (0, 0)) ∧ 1 ≤ cap ∧ w'.heap[g]? = some (.cells cur 51 (0, 0)) ∧ (∀ (i : Nat) (x : Value), (opC num)[i]? = some x → cur[i]? = some x) ∧ w.heap.size ≤ g ∧
        Core N w' num 2 v (awE 0 L) L.length ∧ Items N w' L 0 ∧ Held N w' v L ∧ Chg (fun b => b = N ∨ b = N + 2) w w' ∧ w'.cell? ⟨N + 2, 6, none⟩ = some (.pointer none)) :=
    (ran_any N num _ hR1).mono fun e w' ⟨he, g, cap, cur, h1, h2, h3, h4, h5, h6⟩ => by
      have hT1 : (w.setCell ⟨N + 2, 2, none⟩ (.int .u8 2)).drew.heap[N + 2]? = some (.cells (tC num 2 v (N + 3)) 53 (0, 0)) := heap_setCell_same hC.hT _
      have hT2 := h6.keep hT1 (by omega)
      have hcc : Chg (fun b => b = N ∨ b = N + 2) w w' := (hw1.mono (fun _ _ h => .inr h)).trans (h6.mono (fun _ _ h => .inl h))
      exact ⟨he, g, cap, cur, h1, h3, h4, h5, by simpa [World.setCell] using h2, ⟨hT2, hcc.keep hC.hA (by omega), hcc.keep hC.hO (by omega)⟩, hI.chg hcc (by omega), hH.chg hcc (by omega), hcc, cell_of hT2 rfl⟩
  have hNlt : N + 3 < w.heap.size := heap_lt hC.hA
  have HL : Hid (∀ b, (∃ e ∈ L, b = e.I ∨ b = e.M) → b < w.heap.size) := fun b hb => hI.lt hb
  clear hw1 hR1 hR hr hC hI hH
  go_enter Yba.func5, Yba.ntmps5
  go_wp2
  go_region_with (go_at_call 96; refine HRAN.out.mono ?_; rintro e w1 ⟨rfl, g, cap, cur, h1, h2, h3, h4, h5, h6, h7, h8, h9, h10⟩)
  all_goals
    have HREL : Hid (Calls Yba.prog 14 #[.pointer (some ⟨N + 2, 0, none⟩)] w1 fun e w' => e = .returned (.slice none 0 0) ∧ Core N w' num 2 (.slice none 0 0) [] L.length ∧ Items N w' L L.length ∧ Chg (Turn N L) w1 w') := relAll N w1 num 2 v L hlen h6 h7 h8
    have HX : Hid (w1.heap[N]? = some (.cells #[.slice (some ⟨g, 0, none⟩) 1 cap, .int .i64 0] 26 (0, 0)) ∧ 1 ≤ cap ∧ w1.heap[g]? = some (.cells cur 51 (0, 0)) ∧ (∀ (i : Nat) (x : Value), (opC num)[i]? = some x → cur[i]? = some x) ∧ w.heap.size ≤ g ∧ Chg (fun b => b = N ∨ b = N + 2) w w1 ∧ Items N w1 L 0) := ⟨h1, h2, h3, h4, h5, h9, h7⟩
    clear h1 h2 h3 h4 h5 h6 h7 h8 h9 c0 c2 f2 c6 r4 hmeth HRAN
    go_wp2_with (first | (go_at_call 14; refine HREL.out.mono ?_; rintro e w2 ⟨rfl, k1, k2, k3⟩) | (go_at_call 12; refine (resume_none _ _).mono ?_; rintro e w2 ⟨rfl, rfl⟩))
    go_end0
    have hT : ∀ b, (b = g ∨ b = N) → ¬ Turn N L b := by
      have hg := HX.out.2.2.2.2.1
      intro b hb hT
      rcases hT with h | h | h
      · omega
      · have := hNlt; omega
      · have h1 := HL.out b h
        obtain ⟨e, he, h2⟩ := h
        have := HX.out.2.2.2.2.2.2.ge e he
        omega
    exact ⟨rfl, g, cap, cur, k3.keep HX.out.1 (hT _ (.inr rfl)), HX.out.2.1, k3.keep HX.out.2.2.1 (hT _ (.inl rfl)), HX.out.2.2.2.1, k1, k2, (HX.out.2.2.2.2.2.1.mono (fun b _ h => h.elim .inl (fun h => .inr (.inl h)))).trans (k3.mono (fun b _ h => .inr h))⟩

end Go.Proofs.Ybulkadpy
