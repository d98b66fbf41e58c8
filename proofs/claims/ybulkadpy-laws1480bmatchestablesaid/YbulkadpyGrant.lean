/-
  (*lockItem).grant and release, at an item for which nobody waits.
-/
import Derived.Test.YbulkadpyRows
import Derived.Test.YbulkadpyPtr
import Derived.Deep.QuietTactic
import Derived.BigQuiet
namespace Go.Proofs.Ybulkadpy
open Go.RowKit
open Go.ChangeMaps (setBlock)

/-- The cells of a lockItem for which nobody waits: its holders' map, the exclusive holder, 'holdersAwaited'. -/
def itemC (M : Nat) (ex : Value) (aw : Bool) : Array Value :=
  #[.map (some M), ex, .slice none 0 0, .int .i64 0, .pointer none, .pointer none, .pointer none, .pointer none, .slice none 0 0, .int .i64 0, .slice none 0 0, .int .i64 0, .int .i64 0, .bool aw]

set_option maxHeartbeats 400000 in
theorem front_nil (I : Nat) (w : World) (h : w.cell? ⟨I, 4, none⟩ = some (.pointer none)) :
    Calls Yba.prog 44 #[.pointer (some ⟨I, 4, none⟩)] w fun e w' => e = .returned (.pointer none) ∧ w' = w := by
  go_enter Yba.func44, Yba.ntmps44
  go_wp2
  go_ret
  exact ⟨rfl, rfl⟩

set_option maxHeartbeats 400000 in
theorem grant_no (I : Nat) (w : World) (h4 : w.cell? ⟨I, 4, none⟩ = some (.pointer none)) (h13 : w.cell? ⟨I, 13, none⟩ = some (.bool false)) :
    Calls Yba.prog 23 #[.pointer (some ⟨I, 0, none⟩)] w fun e w' => e = .returned (.slice none 0 0) ∧ Chg (fun _ => False) w w' := by
  go_enter Yba.func23, Yba.ntmps23
  go_wp2_with (go_at_call 44; refine (front_nil _ _ h4).mono ?_; rintro e w' ⟨rfl, rfl⟩)
  refine wp_loop_rounds 1 ?_
  rw [rounds_succ]
  go_wp2
  go_quiet (fail)
  go_wp2
  go_ret
  exact ⟨rfl, (Chg.refl _ _).drewN _⟩

/-- What is asked of the other holders of an item: each is a locker that is awaited on nothing, its map nil. -/
def Idle (w : World) (es : Array MapEntry) (c : Nat) : Prop :=
  (∀ x ∈ es.toList, ∃ b, x.key = .pointer (some ⟨b, 0, none⟩) ∧ w.cell? ⟨b, 5, none⟩ = some (.map none)) ∧ (∀ x ∈ es.toList, x.born < c) ∧ (es.toList.map (·.born)).Nodup

set_option maxRecDepth 100000 in
set_option maxHeartbeats 1000000 in
theorem grant_yes (I M : Nat) (ex : Value) (es : Array MapEntry) (c : Nat) (w : World) (hI : w.heap[I]? = some (.cells (itemC M ex true) 68 (0, 0))) (hM : w.heap[M]? = some (.map es c)) (hid : Idle w es c) :
    Calls Yba.prog 23 #[.pointer (some ⟨I, 0, none⟩)] w fun e w' => e = .returned (.slice none 0 0) ∧ w'.heap[I]? = some (.cells (itemC M ex false) 68 (0, 0)) ∧ Chg (fun b => b = I) w w' := by
  have h4 : w.cell? ⟨I, 4, none⟩ = some (.pointer none) := cell_of hI rfl
  have h13 : w.cell? ⟨I, 13, none⟩ = some (.bool true) := cell_of hI rfl
  have h0 : w.cell? ⟨I, 0, none⟩ = some (.map (some M)) := cell_of hI rfl
  have hf : w.frozen? ⟨I, 13, none⟩ = false := frozen_of hI
  have HI : Hid (w.heap[I]? = some (.cells (itemC M ex true) 68 (0, 0))) := hI
  have HM : Hid (w.heap[M]? = some (.map es c)) := hM
  have HD : Hid (Idle w es c) := hid
  clear hI hM hid
  go_enter Yba.func23, Yba.ntmps23
  go_wp2_with (go_at_call 44; refine (front_nil _ _ h4).mono ?_; rintro e w' ⟨rfl, rfl⟩)
  refine wp_loop_rounds 1 ?_
  rw [rounds_succ]
  go_wp2
  go_quiet (fail)
  go_wp2_with (at_range; refine wpList_range_raw _ rfl _ 58 54 69 rfl Yba.underlying58 M es c rfl ?hb ?_)
  case hb => exact (Chg.keep (((Chg.refl (fun b => b = I) _).drewN nq).setCell ⟨I, 13, none⟩ rfl (.bool false)) HM.out (fun e => by have h1 := HI.out; rw [← e] at h1; have h2 := HM.out; rw [h1] at h2; cases h2))
  intro w1 hit hch hsz
  have hne : M ≠ I := fun e => by have h1 := HI.out; rw [← e] at h1; have h2 := HM.out; rw [h1] at h2; cases h2
  have hC0 : Chg (fun b => b = I) w' ((w'.drewN nq).setCell ⟨I, 13, none⟩ (.bool false)) := ((Chg.refl (fun b => b = I) _).drewN nq).setCell ⟨I, 13, none⟩ rfl (.bool false)
  have hC1 : Chg (fun b => b = I) w' w1 := hC0.trans (hch.mono (fun _ _ h => h.elim))
  have hI1 : w1.heap[I]? = some (.cells (itemC M ex false) 68 (0, 0)) := hch.keep (heap_setCell_same (w := w'.drewN nq) (o := 13) HI.out (.bool false)) (fun h => h)
  have hR : ∃ seen c0, w1.heap[w'.heap.size]? = some (.mapIter (some M) c seen c0) ∧ c ≤ c0 ∧ w1.heap[I]? = some (.cells (itemC M ex false) 68 (0, 0)) ∧ Chg (fun b => b = I) w' w1 := ⟨_, _, hit, Nat.le_refl _, hI1, hC1⟩
  have HR : Hid (∃ seen c0, w1.heap[w'.heap.size]? = some (.mapIter (some M) c seen c0) ∧ c ≤ c0 ∧ w1.heap[I]? = some (.cells (itemC M ex false) 68 (0, 0)) ∧ Chg (fun b => b = I) w' w1) := hR
  clear hit hch hsz hC0 hC1 hI1 hR h0 h4 h13 hf
  go_wp2
  go_loopw [4] (fun _ wr => ∃ seen c0, wr.heap[w'.heap.size]? = some (.mapIter (some M) c seen c0) ∧ c ≤ c0 ∧ wr.heap[I]? = some (.cells (itemC M ex false) 68 (0, 0)) ∧ Chg (fun b => b = I) w' wr)
    (fun _ wr => (leftOf es (wr.iterSeen w'.heap.size)).size)
  case atStart => exact HR.out
  case round =>
    clear HR
    obtain ⟨seen, c0, hit, hc0, hI1, hC1⟩ := hrel
    have HIT : Hid (wr.heap[w'.heap.size]? = some (.mapIter (some M) c seen c0)) := hit
    have hM1 : wr.heap[M]? = some (.map es c) := hC1.keep HM.out hne
    have hnr : M ≠ w'.heap.size := Nat.ne_of_lt (heap_lt HM.out)
    have HK : Hid (wr.heap[I]? = some (.cells (itemC M ex false) 68 (0, 0)) ∧ Chg (fun b => b = I) w' wr ∧ wr.heap[M]? = some (.map es c)) := ⟨hI1, hC1, hM1⟩
    have hlt : I < w'.heap.size := heap_lt HI.out
    clear hit hI1 hC1 hM1
    go_wp2_with (at_next; refine wpList_next_raw _ rfl _ rfl M w'.heap.size c c0 seen es c rfl HIT.out HK.out.2.2 hnr HD.out.2.1 hc0 HD.out.2.2 ?_ ?_)
    · intro h0
      go_wp2
      go_ret
      exact ⟨rfl, HK.out.1, HK.out.2.1⟩
    · intro x w2 hx hr2 hch2 hsz2 hen
      have hx' := Array.mem_toList_iff.2 hx
      obtain ⟨b, hb, hb5⟩ := HD.out.1 x (mem_left hx').1
      have hbI : b ≠ I := fun e => by
        rw [e] at hb5
        have := cell_of (o := 5) HI.out (v := .pointer none) rfl
        rw [this] at hb5
        cases hb5
      have hbl : b < w'.heap.size := Lib.lt_of_cell hb5
      have hu2 : w2.cell? ⟨b, 5, none⟩ = some (.map none) := by
        have e1 : wr.heap[b]? = w'.heap[b]? := HK.out.2.1.block b hbl hbI
        have e2 : w2.heap[b]? = wr.heap[b]? := hch2.block b (Nat.lt_of_lt_of_le hbl HK.out.2.1.size) (Nat.ne_of_lt hbl)
        exact (World.cell?_of_block (w := w') (a := ⟨b, 5, none⟩) (e2.trans e1)).trans hb5
      have hsh := left_shrinks es seen x hx'
      have HN : Hid ((∃ seen c0, w2.heap[w'.heap.size]? = some (.mapIter (some M) c seen c0) ∧ c ≤ c0 ∧ w2.heap[I]? = some (.cells (itemC M ex false) 68 (0, 0)) ∧ Chg (fun b => b = I) w' w2) ∧ (leftOf es (w2.iterSeen w'.heap.size)).size < (leftOf es (wr.iterSeen w'.heap.size)).size) :=
        ⟨⟨_, _, hr2, Nat.le_refl _, hch2.keep HK.out.1 (Nat.ne_of_lt hlt), ⟨hch2.os.trans HK.out.2.1.os, hch2.tape.trans HK.out.2.1.tape, hch2.output.trans HK.out.2.1.output, Nat.le_trans HK.out.2.1.size hch2.size, fun k hk hs => (hch2.block k (Nat.lt_of_lt_of_le hk HK.out.2.1.size) (Nat.ne_of_lt hk)).trans (HK.out.2.1.block k hk hs)⟩⟩,
          by unfold World.iterSeen; rw [hr2, HIT.out]; exact hsh⟩
      rw [hb] at hen ⊢
      clear hx hx' hr2 hch2 hsz2 hsh hb5 hb
      go_wp2_with (at_delete; refine wpList_delete_none _ rfl _ _ 45 57 70 68 rfl Yba.underlying45 Yba.underlying57 _ rfl rfl ?_; go_frame)
      go_roundw
      case rel => exact HN.out.1
      case measure => exact HN.out.2

/-- grant at an item for which nobody waits, whatever 'holdersAwaited' says. -/
theorem grant_any (I M : Nat) (ex : Value) (aw : Bool) (es : Array MapEntry) (c : Nat) (w : World) (hI : w.heap[I]? = some (.cells (itemC M ex aw) 68 (0, 0))) (hM : w.heap[M]? = some (.map es c)) (hid : Idle w es c) :
    Calls Yba.prog 23 #[.pointer (some ⟨I, 0, none⟩)] w fun e w' => e = .returned (.slice none 0 0) ∧ w'.heap[I]? = some (.cells (itemC M ex false) 68 (0, 0)) ∧ Chg (fun b => b = I) w w' := by
  cases aw with
  | true => exact grant_yes I M ex es c w hI hM hid
  | false => exact (grant_no I w (cell_of hI rfl) (cell_of hI rfl)).mono fun e w' ⟨he, hc⟩ => ⟨he, hc.keep hI (fun h => h), hc.mono (fun _ _ h => h.elim)⟩

end Go.Proofs.Ybulkadpy
