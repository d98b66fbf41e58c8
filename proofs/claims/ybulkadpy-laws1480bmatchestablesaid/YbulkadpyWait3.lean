/-
  (*lockRequest).wait: the walk.
-/
import Derived.Test.YbulkadpyWait2
namespace Go.Proofs.Ybulkadpy
open Go.RowKit
open Go.ChangeMaps (setBlock)

section
variable {w : World} {base I HM : Nat} {lk aw : Nat → Nat} {Q : List Req} {r : Req} {es : Array MapEntry}

set_option maxRecDepth 100000 in
set_option maxHeartbeats 1000000 in
theorem wait_more (ts : Nat → Int) (hts : ∀ j, ts (lk j) = j) (h : WPre w base I HM lk aw Q r es true) :
    Calls Yba.prog 7 #[.pointer (some ⟨r.b, 0, none⟩)] w fun e w' => e = .returned (.tuple #[]) ∧ WPost w base I HM lk aw Q r w' := by
  have c1 : w.cell? ⟨r.b, 1, none⟩ = some (.pointer (some ⟨I, 0, none⟩)) := h.com.rq.c1
  have c13 := h.c13
  have HP := hide (h.push ts hts (CChg.refl _ _) h.c13)
  clear h
  go_enter Yba.func7, Yba.ntmps7
  go_wp2_with (go_at_call 16; refine HP.out.mono ?_; rintro e w1 ⟨rfl, d0, ⟨z, d1⟩, d2, d3⟩; have HD := hide d3; clear d3)
  go_end0
  exact ⟨rfl, HD.out⟩

/-- What stands in the loop over the holders. -/
def WLoop (w : World) (I HM : Nat) (lk aw : Nat → Nat) (es : Array MapEntry) (wr : World) : Prop :=
  ∃ seen c0, wr.heap[w.heap.size]? = some (.mapIter (some HM) es.size seen c0) ∧ es.size ≤ c0 ∧ CChg (SW1 w I HM aw) w wr ∧ wr.cell? ⟨I, 13, none⟩ = some (.bool true) ∧
    ∀ y ∈ es.toList, seen.contains y.born = false → ∀ i, y.key = lp (lk i) → wr.heap[aw i]? = some (.map #[] 0)

set_option maxRecDepth 100000 in
set_option maxHeartbeats 1000000 in
theorem wait_first (ts : Nat → Int) (hts : ∀ j, ts (lk j) = j) (h : WPre w base I HM lk aw Q r es false) :
    Calls Yba.prog 7 #[.pointer (some ⟨r.b, 0, none⟩)] w fun e w' => e = .returned (.tuple #[]) ∧ WPost w base I HM lk aw Q r w' := by
  have c1 : w.cell? ⟨r.b, 1, none⟩ = some (.pointer (some ⟨I, 0, none⟩)) := h.com.rq.c1
  have c13 := h.c13
  have f13 := h.com.tI.frozen 13
  have c0 := h.c0
  have hlt : r.b < w.heap.size := h.com.rq.ty.lt
  have H : Hid (WPre w base I HM lk aw Q r es false ∧ ∀ j, ts (lk j) = j) := ⟨h, hts⟩
  have hIH : I ≠ HM := fun e => h.com.tI.notMap ⟨_, _, by rw [e]; exact h.hld.hm⟩
  clear h hts
  go_enter Yba.func7, Yba.ntmps7
  go_wp2_with (at_range; refine wpList_range_raw _ rfl _ 58 54 69 rfl Yba.underlying58 HM es es.size rfl ?hb ?_)
  case hb => exact (Chg.keep ((Chg.refl (fun b => b = I) _).setCell ⟨I, 13, none⟩ rfl (.bool true)) H.out.1.hld.hm (Ne.symm hIH))
  intro w1 hit hch hsz
  have hst : WLoop w I HM lk aw es w1 := by
    have hC0 : CChg (SW1 w I HM aw) w (w.setCell ⟨I, 13, none⟩ (.bool true)) := (CChg.refl _ _).setCell I 13 (.inl ⟨rfl, rfl⟩) _
    refine ⟨#[], _, hit, Nat.le_refl _, hC0.trans (hch.cc.mono (fun _ _ _ h => h.elim)), hch.cell (cell_set_same _ c13), fun y hy _ i hk => ?_⟩
    refine hch.keep ?_ (fun h => h)
    rw [Below.heap_setCell w ⟨I, 13, none⟩ _ (aw i) (fun e => ?_)]
    · exact H.out.1.fresh rfl y hy i hk
    · have h2 := H.out.1.fresh rfl y hy i hk
      exact H.out.1.com.tI.notMap ⟨_, _, by rw [show I = aw i from e.symm]; exact h2⟩
  have HST := hide hst
  clear hst hit hch hsz c0 c13 f13
  go_wp2
  go_loopw [3] (fun _ wr => WLoop w I HM lk aw es wr) (fun _ wr => (leftOf es (wr.iterSeen w.heap.size)).size)
  case atStart => exact HST.out
  case round =>
    clear HST
    obtain ⟨seen, c0, hit, hc0, hcc, h13, hfr⟩ := hrel
    have hM1 : wr.heap[HM]? = some (.map es es.size) := by
      rw [hcc.block HM (heap_lt H.out.1.hld.hm) ?_]
      · exact H.out.1.hld.hm
      · rintro k (⟨e, _⟩ | ⟨_, e⟩)
        · exact hIH e.symm
        · exact e.1 rfl
    have hnr : HM ≠ w.heap.size := Nat.ne_of_lt (heap_lt H.out.1.hld.hm)
    have HK := hide (show wr.heap[w.heap.size]? = some (.mapIter (some HM) es.size seen c0) ∧ wr.heap[HM]? = some (.map es es.size) ∧ CChg (SW1 w I HM aw) w wr ∧ wr.cell? ⟨I, 13, none⟩ = some (.bool true) ∧ ∀ y ∈ es.toList, seen.contains y.born = false → ∀ i, y.key = lp (lk i) → wr.heap[aw i]? = some (.map #[] 0) from ⟨hit, hM1, hcc, h13, hfr⟩)
    clear hit hM1 hcc h13 hfr
    go_wp2_with (at_next; refine wpList_next_raw _ rfl _ rfl HM w.heap.size es.size c0 seen es es.size rfl HK.out.1 HK.out.2.1 hnr H.out.1.hld.old hc0 H.out.1.hld.nd ?_ ?_)
    · intro h0
      have r0 : wr.cell? ⟨r.b, 0, none⟩ = some (.pointer (some ⟨lk r.u, 0, none⟩)) := (H.out.1.mid HK.out.2.2.1).1.rq.c0
      have HP := hide (H.out.1.push ts H.out.2 HK.out.2.2.1 HK.out.2.2.2.1)
      go_wp2_with (go_at_call 16; refine HP.out.mono ?_; rintro e w1 ⟨rfl, d0, ⟨z, d1⟩, d2, d3⟩; have HD := hide d3; clear d3)
      go_end0
      exact ⟨rfl, HD.out⟩
    · intro x w2 hx hr2 hch2 hsz2 hen
      have hx' := Array.mem_toList_iff.2 hx
      obtain ⟨hxe, hxs⟩ := mem_left hx'
      obtain ⟨i, hxk, hti, hai⟩ := H.out.1.hld.keys x hxe
      have hmi : IsMap w (aw i) := ⟨_, _, H.out.1.fresh rfl x hxe i hxk⟩
      have hnh := H.out.1.awHM i
      have hA : wr.heap[aw i]? = some (.map #[] 0) := HK.out.2.2.2.2 x hxe hxs i hxk
      have haL : aw i < w.heap.size := by obtain ⟨_, _, e⟩ := hmi; exact heap_lt e
      have hA2 : w2.heap[aw i]? = some (.map #[] 0) := hch2.keep hA (Nat.ne_of_lt haL)
      have hnS : ∀ k, ¬ SW1 w I HM aw (lk i) k := by
        rintro k (⟨e, _⟩ | ⟨e, _⟩)
        · exact hti.ne H.out.1.com.tI (by decide) e
        · exact hti.notMap e
      have hcc2 : CChg (SW1 w I HM aw) w w2 := HK.out.2.2.1.trans' hch2.cc (fun b k hb e => by omega)
      have hc5 : w2.cell? ⟨lk i, 5, none⟩ = some (.map (some (aw i))) := hti.cell hcc2 (hnS 5) hai
      have tI2 : Ty w2 I 68 14 := H.out.1.com.tI.keep hcc2 ⟨0, by
        rintro (⟨_, e⟩ | ⟨e, _⟩)
        · omega
        · exact H.out.1.com.tI.notMap e⟩
      have HA := hide (await_any (lk i) (aw i) I w2 hc5 hA2 tI2.pl)
      have hI13 : w2.cell? ⟨I, 13, none⟩ = some (.bool true) := (World.cell?_of_block (w := wr) (a := ⟨I, 13, none⟩) (hch2.block I (Lib.lt_of_cell HK.out.2.2.2.1) (Nat.ne_of_lt H.out.1.com.tI.lt))).trans HK.out.2.2.2.1
      have hsh := left_shrinks es seen x hx'
      have HN : Hid (∀ w3, Chg (fun b => b = aw i) w2 w3 → WLoop w I HM lk aw es w3 ∧ (leftOf es (w3.iterSeen w.heap.size)).size < (leftOf es (wr.iterSeen w.heap.size)).size) := fun w3 hc3 => by
        have hit3 : w3.heap[w.heap.size]? = some (.mapIter (some HM) es.size (seen.push x.born) es.size) := hc3.keep hr2 (fun e => by omega)
        refine ⟨⟨_, _, hit3, Nat.le_refl _, hcc2.trans' hc3.cc (fun b k hb e => .inr ⟨by rw [e]; exact hmi, by rw [e]; exact hnh, i, e⟩), ?_, ?_⟩, by unfold World.iterSeen; rw [hit3, HK.out.1]; exact hsh⟩
        · exact (World.cell?_of_block (w := w2) (a := ⟨I, 13, none⟩) (hc3.block I (Lib.lt_of_cell hI13) (fun e => H.out.1.com.tI.notMap (by rw [e]; exact hmi)))).trans hI13
        · intro y hy hys i' hk'
          have hys0 : seen.contains y.born = false ∧ y.born ≠ x.born := by
            simp at hys ⊢
            exact hys
          have hne : aw i' ≠ aw i := fun e => by
            have : i' = i := H.out.1.awi _ _ e
            subst this
            exact hys0.2 (H.out.1.hld.inj y hy x hxe (by rw [hk', hxk]))
          have hA' := HK.out.2.2.2.2 y hy hys0.1 i' hk'
          have hltA : aw i' ≠ w.heap.size := by
            have e := H.out.1.fresh rfl y hy i' hk'
            exact Nat.ne_of_lt (heap_lt e)
          exact hc3.keep (hch2.keep hA' hltA) hne
      have hxk' : x.key = .pointer (some ⟨lk i, 0, none⟩) := hxk
      rw [hxk'] at hen ⊢
      clear hx hx' hr2 hch2 hsz2 hsh hxe hxs hxk hxk' hti hai hmi hA hA2 hcc2 tI2 hI13 hnS hc5
      go_wp2_with (go_at_call 15; refine HA.out.mono ?_; rintro e w3 ⟨rfl, hc3, _⟩)
      go_roundw
      case rel => exact (HN.out w3 hc3).1
      case measure => exact (HN.out w3 hc3).2

theorem wait_any (ts : Nat → Int) (hts : ∀ j, ts (lk j) = j) (a : Bool) (h : WPre w base I HM lk aw Q r es a) :
    Calls Yba.prog 7 #[.pointer (some ⟨r.b, 0, none⟩)] w fun e w' => e = .returned (.tuple #[]) ∧ WPost w base I HM lk aw Q r w' := by
  cases a with
  | true => exact wait_more ts hts h
  | false => exact wait_first ts hts h
end

end Go.Proofs.Ybulkadpy
