/-
  (*locker).await; push said shortly.
-/
import Derived.Test.YbulkadpyPush2
namespace Go.Proofs.Ybulkadpy
open Go.RowKit
open Go.ChangeMaps (setBlock)

set_option maxRecDepth 100000 in
set_option maxHeartbeats 1000000 in
theorem await_any (t A I : Nat) (w : World) (ht : w.cell? ⟨t, 5, none⟩ = some (.map (some A))) (hA : w.heap[A]? = some (.map #[] 0)) (hI : Pl w I) :
    Calls Yba.prog 15 #[.pointer (some ⟨t, 0, none⟩), .pointer (some ⟨I, 0, none⟩)] w fun e w' => e = .returned (.tuple #[]) ∧ Chg (fun b => b = A) w w' ∧ w'.heap.size = w.heap.size := by
  obtain ⟨j68, hj68, hz68⟩ := info_of Yba.info68 (by decide)
  have hq : ∀ W : World, (binOp .eql 45 (.map (some A)) (.map none)).run Yba.prog W = .ok (.bool false) W := fun _ => by kernel_rfl
  have HJ : Hid (Yba.prog.info? 68 = some j68) := hj68
  have HA : Hid (w.heap[A]? = some (.map #[] 0) ∧ Pl w I) := ⟨hA, hI⟩
  clear hj68 hA hI
  go_enter Yba.func15, Yba.ntmps15
  go_wp2_with (at_mapUpdate; refine wpList_update_raw _ rfl _ _ _ 45 57 70 68 j68 rfl Yba.underlying45 Yba.underlying57 HJ.out hz68 A #[] 0 ⟨I, 0, none⟩ (.agg #[]) rfl rfl rfl HA.out.2 HA.out.1 (by simp) rfl ?_; intro w3 h3 hc3 hs3; go_frame)
  go_end0
  exact ⟨rfl, hc3, hs3⟩

theorem filter_snoc (Q : List Req) (r : Req) : (Q ++ [r]).filter isX = if r.m = 2 then Q.filter isX ++ [r] else Q.filter isX := by
  rw [List.filter_append]
  by_cases h : r.m = 2
  · rw [if_pos h]; simp [isX, h]
  · rw [if_neg h]; simp [isX, h]

theorem push_ok (ts : Nat → Int) (w : World) (base I : Nat) (lk : Nat → Nat) (hts : ∀ j, ts (lk j) = j) (Q : List Req) (r : Req) (hC : Com w base I lk Q r) (hQ : QBoth w base I lk Q (Q.filter isX)) :
    Calls Yba.prog 16 #[.pointer (some ⟨I, 4, none⟩), .pointer (some ⟨r.b, 0, none⟩)] w fun e w' => e = .returned (.tuple #[]) ∧ CChg (SAll w base I Q r) w w' ∧ Com w' base I lk Q r ∧ QBoth w' base I lk (Q ++ [r]) ((Q ++ [r]).filter isX) := by
  obtain ⟨v0, m0, v1, m1, h0, h1, hap⟩ := hQ
  have hc : Chg (fun _ => False) w (w.alloc (litO r.m)) := (Chg.refl _ _).alloc _
  have hinv : PInv (w.alloc (litO r.m)) (w.alloc (litO r.m)) base I lk Q r v0 v1 m0 m1 w.heap.size 0 :=
    ⟨CChg.refl _ _, hC.chg0 hc, fun _ => h0.chg0 hc, fun h => by omega, fun _ => h1.chg0 hc, fun h => by omega, heap_alloc_new _ _⟩
  refine (push_any ts w base I lk hts Q r _ rfl v0 v1 m0 m1 ⟨_, _, (h0.chg0 hc).row⟩ ⟨_, _, (h1.chg0 hc).row⟩ hap hinv hC.rq.c2).mono ?_
  rintro e w' ⟨he, hp⟩
  refine ⟨he, (hc.cc.mono (fun _ _ _ h => h.elim)).trans (hp.cc.mono ?_), hp.com, ?_⟩
  · rintro b k hb (h | h | ⟨h2, cur, h3⟩)
    · exact .inl h
    · exact .inr (.inl h)
    · refine .inr (.inr ⟨h2, cur, ?_⟩)
      rcases Nat.lt_or_ge b w.heap.size with hlt | hge
      · rw [← hc.block b hlt (fun h => h)]; exact h3
      · have hb2 : b < w.heap.size + 1 := by simpa using hb
        have : b = w.heap.size := by omega
        subst this
        rw [heap_alloc_new] at h3
        obtain ⟨cs, hcs⟩ := litO_cells r.m
        rw [hcs] at h3
        cases h3
  · rw [filter_snoc]
    rcases hC.rq.mode with hm | hm
    · rw [if_neg (by omega)]
      have e : litN r.m = 1 := by unfold litN; rw [if_neg (by omega)]
      rw [e] at hp
      obtain ⟨v, m, q1, q2⟩ := hp.z1 (by omega)
      exact ⟨v, m, v1, m1, q1, hp.o0 (by omega), q2⟩
    · rw [if_pos hm]
      have e : litN r.m = 2 := by unfold litN; rw [if_pos hm]
      rw [e] at hp
      exact hp.o1 (by omega)

end Go.Proofs.Ybulkadpy
