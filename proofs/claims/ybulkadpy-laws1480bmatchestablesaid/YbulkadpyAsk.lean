/-
  LawS1480BMatchesTable: the asking of blockers.
-/
import Derived.Test.YbulkadpyG
namespace Go.Proofs.Ybulkadpy
open Go.RowKit

/-- Who stands in the way, as inWay yields them. -/
def InWay (qm : Int) (ex : Option Nat) (hs : List Nat) (who : Nat) (Q : List Req) (xs : List Nat) : Prop :=
  ∃ h, (if qm = 2 then h.Perm (hs.filter fun i => decide (i ≠ who)) else h = ex.toList) ∧ xs = h ++ (if qm = 2 then Q else Q.filter isX).map Req.u

section
variable {w wr : World} {n : Nat} {num : Nat → Int} {md : Int} {hs : List Nat} {ex : Option Nat} {Q : List Req} {a : Bool} {wl : List Nat} {vw : Value}

theorem QS.way {w : World} {base I l : Nat} {lk : Nat → Nat} {L : List Req} {v : Value} {lim : Int} {N : Nat} (h : QS w base I l lk L v lim) (rq : ∀ x ∈ L, RQ w I lk x ∧ x.u < N) (nd : (L.map Req.b).Nodup) (hl : L.length ≤ 400) : WayL w I l lk N L := ⟨h.first, h.next, rq, nd, hl⟩

theorem G.ask (h : G w wr n num md hs ex Q a wl vw) (who : Nat) (qm : Int) (hwho : who < n) (hm : qm = 1 ∨ qm = 2) (hQ : Q.length ≤ 300) (hhs : hs.length ≤ 300) (hex : ∀ e, ex = some e → e < n) :
    Calls Yba.prog 8 #[.pointer (some ⟨wr.heap.size, 0, none⟩)] (wr.alloc (reqO w.heap.size who qm ((n : Int) + 1))) fun e W' => ∃ v xs, e = .returned v ∧ InWay qm ex hs who Q xs ∧ xs.length ≤ 1000 ∧ (∃ B, Ints W' B v (Lib.compact ((xs.map num).mergeSort fun x y => decide (x ≤ y))) ∧ ∀ b, vw.ownBlock = some b → w.heap.size ≤ b ∧ b < B) ∧
      Below w.heap.size w W' ∧ Ints W' w.heap.size vw (wl.map num) := by
  have hc0 : Chg (fun _ => False) wr (wr.alloc (reqO w.heap.size who qm ((n : Int) + 1))) := (Chg.refl _ _).alloc _
  have g := h.chg0 hc0
  obtain ⟨W0, hW0⟩ : ∃ W0, wr.alloc (reqO w.heap.size who qm ((n : Int) + 1)) = W0 := ⟨_, rfl⟩
  have hq : W0.heap[wr.heap.size]? = some (reqO w.heap.size who qm ((n : Int) + 1)) := by rw [← hW0]; exact heap_alloc_new _ _
  rw [hW0] at g hc0 ⊢
  have hZ : w.heap.size ≤ W0.heap.size := g.below.size
  have hask : ∀ qm', qm = qm' → AskQ W0 (w.heap.size + 1) (w.heap.size + 2) (lkB w.heap.size) (awB w.heap.size) (esB w.heap.size md hs) wr.heap.size who n qm' ex := by
    rintro _ rfl
    refine ⟨⟨_, hq, rfl⟩, cell_of hq rfl, cell_of hq rfl, cell_of hq rfl, cell_of hq rfl, g.c0, g.c1, hex, (g.lks who hwho).1, g.hld, by rw [esB_size]; omega, fun x hx i hk => ?_⟩
    obtain ⟨i', k', hk', rfl⟩ := esB_mem hx
    have e2 : lkB w.heap.size i' = lkB w.heap.size i := by simpa [lp] using hk
    have e3 : i' = i := by unfold lkB at e2; omega
    subst e3
    exact g.hsn i' (List.mem_iff_getElem?.2 ⟨k', hk'⟩)
  have hrq : ∀ x ∈ Q, RQ W0 (w.heap.size + 1) (lkB w.heap.size) x ∧ x.u < n := fun x hx => ⟨(g.rqs x hx).1, (g.rqs x hx).2.2⟩
  have hS : ∀ xs, InWay qm ex hs who Q xs → xs.length ≤ 1000 := by
    rintro xs ⟨h1, h2, rfl⟩
    rw [List.length_append, List.length_map]
    have hl : h1.length ≤ 300 := by
      rcases hm with rfl | rfl
      · rw [if_neg (by omega)] at h2
        rw [h2]
        cases ex <;> simp
      · rw [if_pos rfl] at h2
        rw [h2.length_eq]
        exact Nat.le_trans (List.length_filter_le _ _) hhs
    have hl2 : (if qm = 2 then Q else Q.filter isX).length ≤ 300 := by
      split
      · exact hQ
      · exact Nat.le_trans (List.length_filter_le _ _) hQ
    omega
  have hiter : Iter W0 wr.heap.size (lkB w.heap.size) num n (InWay qm ex hs who Q) (W0.alloc (.cells #[.slice none 0 0] 74)) := by
    intro r W hJ hY
    have hL : W0.heap.size + 2 ≤ (W0.alloc (.cells #[.slice none 0 0] 74)).heap.size + 1 := by simp
    obtain ⟨v0, m0, v1, m1, q0, q1, _⟩ := g.both
    rcases hm with rfl | rfl
    · have hq1 := QS.way q1 (fun x hx => hrq x ((filter_sub Q).subset hx)) (g.nd.sublist ((filter_sub Q).map Req.b)) (Nat.le_trans (List.length_filter_le _ _) (by omega))
      refine (way1 W0 _ _ _ _ _ _ who n ex num (Q.filter isX) _ r (fun h => h = ex.toList) (fun h e => by rw [e]; cases ex <;> simp) (hask 1 rfl) hq1 hY W ((hold_shared W0 _ _ _ _ _ _ who n ex num _ r _ (hask 1 rfl) hY W hJ).mono ?_)).mono ?_
      · rintro e W' ⟨he, h1, h2⟩
        exact ⟨he, _, rfl, h1, h2⟩
      · rintro e W' ⟨he, xs, ⟨h1, h2, h3⟩, h4⟩
        exact ⟨he, xs, ⟨h1, by rw [if_neg (by omega)]; exact h2, by rw [if_neg (by omega)]; exact h3⟩, h4⟩
    · have hq0 := QS.way q0 hrq g.nd (by omega)
      have hof : hOf (tsB w.heap.size) who (esB w.heap.size md hs).toList = hs.filter fun i => decide (i ≠ who) := by
        unfold hOf
        rw [esB_ix]
      refine (way0 W0 _ _ _ _ _ _ who n ex num Q _ r (fun h => h.Perm (hs.filter fun i => decide (i ≠ who))) (fun h e => by rw [e.length_eq]; exact Nat.le_trans (List.length_filter_le _ _) (by omega)) (hask 2 rfl) hq0 hY W ((hold_excl W0 _ _ _ _ (tsB w.heap.size) (tsB_lk w.heap.size) _ _ who n ex num _ hL r _ (hask 2 rfl) hY W hJ).mono ?_)).mono ?_
      · rintro e W' ⟨he, xs, h1, h2⟩
        rw [hof] at h1
        exact ⟨he, xs, h1, h2⟩
      · rintro e W' ⟨he, xs, ⟨h1, h2, h3⟩, h4⟩
        exact ⟨he, xs, ⟨h1, by rw [if_pos rfl]; exact h2, by rw [if_pos rfl]; exact h3⟩, h4⟩
  refine (blockers_any W0 wr.heap.size (lkB w.heap.size) num n (fun x hx => (g.lks x hx).2.1) _ hS hiter).mono ?_
  rintro e W' ⟨v, xs, he, hin, hints, hbel⟩
  have hwant : Ints W0 (w.heap.size + 4) vw (wl.map num) := Ints.of_row (by rw [List.length_map, List.map_map]; exact g.row)
  refine ⟨v, xs, he, hin, hS xs hin, ⟨_, hints, fun b hb => ?_⟩, g.below.trans (hbel.mono hZ), ?_⟩
  · obtain ⟨h1, cur, hcur⟩ := row_ty g.row hb
    exact ⟨by omega, heap_lt hcur⟩
  · obtain ⟨ao, cap, h1, h2, h3⟩ := hwant
    refine ⟨ao, cap, h1, h2, ?_⟩
    rcases h3 with h3 | ⟨b, e1, e2, e3, e4⟩
    · exact .inl h3
    refine .inr ⟨b, e1, by omega, Nat.lt_of_lt_of_le e3 hbel.size, fun j hj => ?_⟩
    have hk := hbel.block b e3
    exact ⟨(World.cell?_of_block (w := W0) (a := ⟨b, 0 + j, none⟩) hk).trans (e4 j hj).1, (World.frozen?_of_block (w := W0) (a := ⟨b, 0 + j, none⟩) hk).trans (e4 j hj).2⟩
end

theorem Ints.apart {S : Nat → Prop} {W W' : World} {base : Nat} {v : Value} {zs : List Int} (h : Ints W base v zs) (hc : Chg S W W') (hs : ∀ b, base ≤ b → ¬ S b) : Ints W' base v zs := by
  obtain ⟨ao, cap, h1, h2, h3⟩ := h
  refine ⟨ao, cap, h1, h2, ?_⟩
  rcases h3 with h3 | ⟨b, e1, e2, e3, e4⟩
  · exact .inl h3
  refine .inr ⟨b, e1, e2, Nat.lt_of_lt_of_le e3 hc.size, fun j hj => ?_⟩
  have hk := hc.block b e3 (hs b e2)
  exact ⟨(World.cell?_of_block (w := W) (a := ⟨b, 0 + j, none⟩) hk).trans (e4 j hj).1, (World.frozen?_of_block (w := W) (a := ⟨b, 0 + j, none⟩) hk).trans (e4 j hj).2⟩

/-- Sorting and compacting the wanted ones, which are as many as came. -/
theorem wanted {W : World} {w : World} {num : Nat → Int} {vw v : Value} {wl xs : List Nat} {B : Nat} (hp : xs.Perm wl) (hl : xs.length ≤ 1000) (hv : Ints W B v (Lib.compact ((xs.map num).mergeSort fun x y => decide (x ≤ y)))) (hB : ∀ b, vw.ownBlock = some b → w.heap.size ≤ b ∧ b < B) (hbel : Below w.heap.size w W) (hw : Ints W w.heap.size vw (wl.map num)) :
    Calls Yba.prog 9 #[vw] W fun e W1 => e = .returned (.tuple #[]) ∧ Calls Yba.prog 10 #[vw] W1 fun e W2 => ∃ v2, e = .returned v2 ∧ Calls Yba.prog 11 #[v, v2] W2 fun e W3 => e = .returned (.bool true) ∧ Below w.heap.size w W3 ∧ Ints W3 B v (Lib.compact ((xs.map num).mergeSort fun x y => decide (x ≤ y))) := by
  have hlen : (wl.map num).length ≤ 1000 := by rw [List.length_map, ← hp.length_eq]; exact hl
  refine (sort_c W _ vw (wl.map num) hlen hw).mono ?_
  rintro e W1 ⟨he, h1, hc1⟩
  refine ⟨he, (compact_c W1 _ vw _ (by rw [List.length_mergeSort]; exact hlen) h1).mono ?_⟩
  rintro e W2 ⟨v2, he2, h2, hc2⟩
  have hcc := hc1.trans hc2
  have hv2 := hv.apart hcc (fun b hb e => by have := (hB b e).2; omega)
  rw [← sort_perm (hp.map num)] at h2
  refine ⟨v2, he2, (equal_c W2 B _ v v2 _ (Nat.le_trans (Lib.compact_length_le _) (by rw [List.length_mergeSort, List.length_map]; exact hl)) hv2 h2).mono ?_⟩
  rintro e W3 ⟨he3, q, rfl⟩
  exact ⟨he3, hbel.trans (hcc.drewN q |>.below hbel.size (fun b hb e => by have := (hB b e).1; omega)), hv2.apart (S := fun _ => False) ((Chg.refl _ _).drewN q) (fun _ _ h => h)⟩

end Go.Proofs.Ybulkadpy
