/-
  (*locker).releaseAll, resume of nothing.
-/
import Derived.Test.YbulkadpyState
import Derived.Laws.AppendOwnNone
namespace Go.Proofs.Ybulkadpy
open Go.RowKit
open Go.ChangeMaps (setBlock)

theorem Yba.info46 : (Yba.prog.info? 46).map (fun i => (i.zero, i.size, i.bytes)) = some (some (.pointer none), 1, 8) := by kernel_rfl

/-- A slice that owns its row, written out. -/
theorem owns_form {w : World} {base : Nat} {e : TypeId} {v : Value} {n : Nat} {xs : List Value} (h : w.ownsRow base e 1 v n xs) :
    ∃ a cap, v = .slice a n cap ∧ ∀ j, j < n → ∃ g cur, a = some ⟨g, 0, none⟩ ∧ base ≤ g ∧ n ≤ cap ∧ w.heap[g]? = some (.cells cur e (0, 0)) ∧ ∀ (i : Nat) (x : Value), xs[i]? = some x → cur[i]? = some x := by
  obtain ⟨hl, ⟨rfl, rfl⟩ | ⟨g, cap, cur, rfl, hb, hg, hc, _, _, ht⟩⟩ := h
  · exact ⟨none, 0, rfl, fun j hj => by omega⟩
  · refine ⟨_, cap, rfl, fun j hj => ⟨g, cur, rfl, hb, hc, hg, fun i x hx => ?_⟩⟩
    rw [← ht] at hx
    have hi : i < n * 1 := by
      have := (List.getElem?_eq_some_iff.1 hx).1
      rw [List.length_take] at this
      omega
    rw [List.getElem?_take, if_pos hi] at hx
    simpa using hx

/-- The slice in 't.held' owns the items' pointers. -/
def Held (N : Nat) (w : World) (v : Value) (L : List Ent) : Prop := w.ownsRow (N + 6) 57 1 v L.length (L.map Ent.ptr)

set_option maxRecDepth 100000 in
set_option maxHeartbeats 1000000 in
theorem relAll (N : Nat) (w : World) (num oc : Int) (v : Value) (L : List Ent) (hlen : L.length ≤ 256) (hC : Core N w num oc v (awE 0 L) L.length) (hI : Items N w L 0) (hH : Held N w v L) :
    Calls Yba.prog 14 #[.pointer (some ⟨N + 2, 0, none⟩)] w fun e w' => e = .returned (.slice none 0 0) ∧ Core N w' num oc (.slice none 0 0) [] L.length ∧ Items N w' L L.length ∧ Chg (Turn N L) w w' := by
  obtain ⟨i0, hi, hz0, hz1, hz2⟩ := info_parts Yba.info46
  obtain ⟨a, cap, hv, hrow⟩ := owns_form hH
  have c4 : w.cell? ⟨N + 2, 4, none⟩ = some (.slice a L.length cap) := cell_of hC.hT (by rw [hv]; rfl)
  have HR : Hid (∀ j, j < L.length → ∃ g cur, a = some ⟨g, 0, none⟩ ∧ N + 6 ≤ g ∧ L.length ≤ cap ∧ w.heap[g]? = some (.cells cur 57 (0, 0)) ∧ ∀ (i : Nat) (x : Value), (L.map Ent.ptr)[i]? = some x → cur[i]? = some x) := hrow
  have HST : Hid (Core N w num oc v ((awE 0 L).drop 0) L.length ∧ Items N w L 0) := ⟨hC, hI⟩
  have HI0 : Hid (i0.zero = some (.pointer none) ∧ i0.size = 1 ∧ i0.bytes = 8) := ⟨hz0, hz1, hz2⟩
  have HI1 : Hid (Yba.prog.info? 46 = some i0) := hi
  clear hH hv hrow hC hI hi hz0 hz1 hz2
  go_enter Yba.func14, Yba.ntmps14
  go_wp2
  go_loopw [2, 10] (fun vg vj wr => ∃ j : Nat, j ≤ L.length ∧ vg = .slice none 0 0 ∧ vj = .int .i64 j ∧ Core N wr num oc v ((awE 0 L).drop j) L.length ∧ Items N wr L j ∧ Chg (Turn N L) w wr)
    (fun _ vj _ => L.length - (intOf vj).toNat)
  case atStart => exact ⟨0, Nat.zero_le _, rfl, rfl, HST.out.1, HST.out.2, Chg.refl _ _⟩
  case round =>
    clear c4
    obtain ⟨j, hj, rfl, rfl, hC, hI, hT⟩ := hrel
    by_cases hlt : j < L.length
    · obtain ⟨g, cur, rfl, hg6, hcap, hg, hcur⟩ := HR.out j hlt
      obtain ⟨e, he⟩ : ∃ e, L[j]? = some e := ⟨_, List.getElem?_eq_getElem hlt⟩
      have hpre := relPre hC hI e he
      have hgk : wr.heap[g]? = some (.cells cur 57 (0, 0)) := hT.keep hg (by
        rintro (h | h | ⟨f, hf, h | h⟩)
        · omega
        · omega
        · obtain ⟨i, hi⟩ := List.mem_iff_getElem?.1 hf
          have := (HST.out.2.at_ i f hi).1
          rw [← h, hg] at this
          cases this
        · obtain ⟨i, hi⟩ := List.mem_iff_getElem?.1 hf
          have := (HST.out.2.at_ i f hi).2
          rw [← h, hg] at this
          cases this)
      have hcj : wr.cell? ⟨g, j, none⟩ = some (.pointer (some ⟨e.I, 0, none⟩)) := cell_of hgk (hcur j _ (by simp [he, Ent.ptr]))
      have HP : Hid (RelPre wr e.I e.M (N + 2) (N + 3) (e.ex N) e.aw (e.es N) e.clk (tC num oc v (N + 3)) 53 ((awE 0 L).drop j).toArray L.length) := hpre
      have HE : Hid (L[j]? = some e) := he
      have HW : Hid (Core N wr num oc v ((awE 0 L).drop j) L.length ∧ Items N wr L j ∧ Chg (Turn N L) w wr) := ⟨hC, hI, hT⟩
      clear hpre he hC hI hT hg hgk hcur hg6
      go_wp2_with (first
        | (go_at_call 24; refine (release_any _ _ _ _ _ _ _ _ _ _ _ _ _ HP.out).mono ?_; rintro e2 w2 ⟨rfl, h1, h2, h3, h4⟩)
        | (at_builtin; refine wpList_append_own_none rfl _ _ 90 rfl 0 46 i0 1 Yba.underlying90 HI1.out _ 0 [] rfl (World.ownsRow_nil _ _ _ _) rfl ?_))
      have hm : e ∈ L := List.mem_iff_getElem?.2 ⟨j, HE.out⟩
      obtain ⟨hC2, hI2⟩ := rel_step HW.out.1 HW.out.2.1 e HE.out h1 h2 h3 h4
      have hT2 : Chg (Turn N L) w w2 := HW.out.2.2.trans (h4.mono (by
        rintro k _ (h | h | h)
        · exact .inr (.inr ⟨e, hm, .inl h⟩)
        · exact .inr (.inr ⟨e, hm, .inr h⟩)
        · exact .inr (.inl h)))
      go_roundw
      case rel => exact ⟨j + 1, by omega, rfl, by go_num, hC2, hI2, hT2⟩
      case measure => simp [intOf]; omega
    · have hjj : j = L.length := by omega
      subst hjj
      have hd : (awE 0 L).drop L.length = [] := List.drop_eq_nil_of_le (by rw [awE_length]; exact Nat.le_refl _)
      rw [hd] at hC
      have c4 : wr.cell? ⟨N + 2, 4, none⟩ = some v := cell_of hC.hT rfl
      have f4 : wr.frozen? ⟨N + 2, 4, none⟩ = false := frozen_of hC.hT
      have hIx : Items N (wr.setCell ⟨N + 2, 4, none⟩ (.slice none 0 0)) L L.length := by
        have hcx : Chg (fun b => b = N + 2) wr (wr.setCell ⟨N + 2, 4, none⟩ (.slice none 0 0)) := (Chg.refl (fun b => b = N + 2) _).setCell ⟨N + 2, 4, none⟩ rfl _
        refine ⟨fun i e he => ?_, hI.nI, hI.nM, hI.ge⟩
        have hge := hI.ge e (List.mem_iff_getElem?.2 ⟨i, he⟩)
        have := hI.at_ i e he
        exact ⟨hcx.keep this.1 (by omega), hcx.keep this.2 (by omega)⟩
      have hCx : Core N (wr.setCell ⟨N + 2, 4, none⟩ (.slice none 0 0)) num oc (.slice none 0 0) [] L.length := by
        have hcx : Chg (fun b => b = N + 2) wr (wr.setCell ⟨N + 2, 4, none⟩ (.slice none 0 0)) := (Chg.refl (fun b => b = N + 2) _).setCell ⟨N + 2, 4, none⟩ rfl _
        exact ⟨heap_setCell_same hC.hT _, hcx.keep hC.hA (by omega), hcx.keep hC.hO (by omega)⟩
      have HF : Hid (Core N (wr.setCell ⟨N + 2, 4, none⟩ (.slice none 0 0)) num oc (.slice none 0 0) [] L.length ∧ Items N (wr.setCell ⟨N + 2, 4, none⟩ (.slice none 0 0)) L L.length ∧ Chg (Turn N L) w (wr.setCell ⟨N + 2, 4, none⟩ (.slice none 0 0))) :=
        ⟨hCx, hIx, hT.setCell ⟨N + 2, 4, none⟩ (.inl rfl) _⟩
      clear hCx hIx hC hI hT hd
      go_wp2
      go_ret
      exact ⟨rfl, HF.out⟩

set_option maxHeartbeats 400000 in
theorem resume_none (r : Value) (w : World) : Calls Yba.prog 12 #[r, .slice none 0 0] w fun e w' => e = .returned (.tuple #[]) ∧ w' = w := by
  go_enter Yba.func12, Yba.ntmps12
  go_wp2
  refine wp_loop_rounds 1 ?_
  rw [rounds_succ]
  go_wp2
  go_end0
  exact ⟨rfl, rfl⟩

end Go.Proofs.Ybulkadpy
