/-
  (*lockQueue).push: the walk.
-/
import Derived.Test.YbulkadpyPush
namespace Go.Proofs.Ybulkadpy
open Go.RowKit
open Go.ChangeMaps (setBlock)

theorem hide {p : Prop} (h : p) : Hid p := h

/-- What the walk of a round reads. -/
structure RCells (w : World) (I l q : Nat) (last : Option Nat) : Prop where
  lastc : w.cell? ⟨I, 5 + 2 * l, none⟩ = some (optp last)
  fI : ∀ k, w.frozen? ⟨I, k, none⟩ = false
  first : ∃ v, w.cell? ⟨I, 4 + 2 * l, none⟩ = some v
  q4 : ∃ v, w.cell? ⟨q, 4 + 2 * l, none⟩ = some v
  q5 : ∃ v, w.cell? ⟨q, 5 + 2 * l, none⟩ = some v
  fq : ∀ k, w.frozen? ⟨q, k, none⟩ = false
  ne : q ≠ I
  y5 : ∀ b, last = some b → (∃ v, w.cell? ⟨b, 5 + 2 * l, none⟩ = some v) ∧ (∀ k, w.frozen? ⟨b, k, none⟩ = false) ∧ b ≠ I ∧ b ≠ q

theorem RPre.cells {w : World} {base I l : Nat} {lk : Nat → Nat} {L : List Req} {v : Value} {lim : Int} {r : Req} (h : RPre w base I l lk L v lim r) : RCells w I l r.b (L.getLast?.map Req.b) := by
  have hl := h.hl
  refine ⟨h.qs.last, h.tI.frozen, h.tI.some _ (by omega), h.rq.ty.some _ (by omega), h.rq.ty.some _ (by omega), h.rq.ty.frozen, h.rq.ty.ne h.tI (by decide), ?_⟩
  intro b hb
  obtain ⟨y, hy, rfl⟩ := Option.map_eq_some_iff.1 hb
  have hm : y ∈ L := List.mem_of_getLast? hy
  have ty := (h.old y hm).1.ty
  refine ⟨ty.some _ (by omega), ty.frozen, ty.ne h.tI (by decide), fun e => ?_⟩
  have nd := h.nd
  rw [List.map_append] at nd
  exact (List.nodup_append.1 nd).2.2 y.b (List.mem_map.2 ⟨y, hm, rfl⟩) r.b (by simp) e

/-- Behind the links: what the tail of the round asks. -/
def TailOk (W w : World) (base I l : Nat) (li : Int) (o : Nat) (lk : Nat → Nat) (L : List Req) (v : Value) (r : Req) : Prop :=
  W.cell? ⟨r.b, 0, none⟩ = some (.pointer (some ⟨lk r.u, 0, none⟩)) ∧ W.cell? ⟨r.b, 1, none⟩ = some (.pointer (some ⟨I, 0, none⟩)) ∧
  Calls Yba.prog 27 #[.pointer (some ⟨I, 0, none⟩), .int .i64 li] W.drew fun e w1 => e = .returned (.func (.func 53) #[] #[.pointer (some ⟨W.heap.size, 0, none⟩), .pointer (some ⟨W.heap.size + 1, 0, none⟩)]) ∧ w1.cell? ⟨r.b, 0, none⟩ = some (.pointer (some ⟨lk r.u, 0, none⟩)) ∧
      Calls Yba.prog 26 #[.pointer (some ⟨I, o, none⟩), .pointer (some ⟨lk r.u, 0, none⟩), .func (.func 53) #[] #[.pointer (some ⟨W.heap.size, 0, none⟩), .pointer (some ⟨W.heap.size + 1, 0, none⟩)]] w1 fun e w2 => e = .returned (.tuple #[]) ∧ RPost w base I l lk L v r w2

theorem RPre.tail {w : World} {base I l : Nat} {lk : Nat → Nat} {L : List Req} {v : Value} {lim : Int} {r : Req} (ts : Nat → Int) (hts : ∀ j, ts (lk j) = j) (h : RPre w base I l lk L v lim r) (li : Int) (o : Nat) (hli : li = l) (ho : o = 8 + 2 * l) : TailOk (linkW w I r.b l (L.getLast?.map Req.b)) w base I l li o lk L v r := by
  subst hli ho
  have hL := h.linked
  have hr : RQ (linkW w I r.b l (L.getLast?.map Req.b)) I lk r := h.rq.keep hL.cc (fun k hk hs => by have := hs.ge; omega)
  exact ⟨hr.c0, hr.c1, tail_any ts hts h hL⟩

section
variable {w w' : World} {base I l : Nat} {lk : Nat → Nat} {L : List Req} {v : Value} {lim : Int} {r : Req}
theorem Ty.chg0 {b : Nat} {ty : TypeId} {n : Nat} (h : Ty w b ty n) (hc : Chg (fun _ => False) w w') : Ty w' b ty n := h.keep hc.cc ⟨0, fun h => h⟩
theorem QS.chg0 (h : QS w base I l lk L v lim) (hc : Chg (fun _ => False) w w') : QS w' base I l lk L v lim :=
  ⟨hc.cell h.first, hc.cell h.last, hc.cell h.rowv, hc.cell h.limv, ownsRow_chg h.row hc (fun _ _ h => h), h.lims, fun i x hx => hc.cell (h.next i x hx)⟩
theorem Com.chg0 {Q : List Req} (h : Com w base I lk Q r) (hc : Chg (fun _ => False) w w') : Com w' base I lk Q r :=
  h.keep hc.cc ⟨0, fun h => h⟩ (fun _ _ _ _ h => h) (fun _ _ _ h => h)
theorem QBoth.chg0 {A B : List Req} (h : QBoth w base I lk A B) (hc : Chg (fun _ => False) w w') : QBoth w' base I lk A B := by
  obtain ⟨v0, m0, v1, m1, h1, h2, h3⟩ := h
  exact ⟨v0, m0, v1, m1, h1.chg0 hc, h2.chg0 hc, h3⟩
theorem PInv.chg0 {W : World} {Q : List Req} {v0 v1 : Value} {m0 m1 : Int} {g j : Nat} (h : PInv W w base I lk Q r v0 v1 m0 m1 g j) (hc : Chg (fun _ => False) w w') : PInv W w' base I lk Q r v0 v1 m0 m1 g j :=
  ⟨h.cc.trans (hc.cc.mono (fun _ _ _ h => h.elim)), h.com.chg0 hc, fun e => (h.z0 e).chg0 hc, fun e => by
    obtain ⟨v, m, h1, h2⟩ := h.z1 e
    exact ⟨v, m, h1.chg0 hc, h2⟩, fun e => (h.o0 e).chg0 hc, fun e => (h.o1 e).chg0 hc, hc.keep h.lit (fun h => h)⟩
end

theorem lit_cell {w : World} {g : Nat} {m : Int} (hm : m = 1 ∨ m = 2) (hg : w.heap[g]? = some (litO m)) (j : Nat) (hj : j < litN m) : w.cell? ⟨g, j, none⟩ = some (.int .i64 j) := by
  rcases hm with rfl | rfl
  · have : j = 0 := by unfold litN at hj; simp at hj; omega
    subst this
    exact cell_of hg rfl
  · have : j = 0 ∨ j = 1 := by unfold litN at hj; simp at hj; omega
    rcases this with rfl | rfl
    · exact cell_of hg rfl
    · exact cell_of hg rfl

set_option maxRecDepth 100000 in
set_option maxHeartbeats 2000000 in
theorem push_any (ts : Nat → Int) (w : World) (base I : Nat) (lk : Nat → Nat) (hts : ∀ j, ts (lk j) = j) (Q : List Req) (r : Req) (W : World) (hW : W = w.alloc (litO r.m)) (v0 v1 : Value) (m0 m1 : Int) (r0 : ∃ n xs, W.ownsRow base 54 1 v0 n xs) (r1 : ∃ n xs, W.ownsRow base 54 1 v1 n xs) (ap : ∀ b, v0.ownBlock = some b → v1.ownBlock ≠ some b)
    (h : PInv W W base I lk Q r v0 v1 m0 m1 w.heap.size 0) (hc2 : w.cell? ⟨r.b, 2, none⟩ = some (.int .u8 r.m)) :
    Calls Yba.prog 16 #[.pointer (some ⟨I, 4, none⟩), .pointer (some ⟨r.b, 0, none⟩)] w fun e w' => e = .returned (.tuple #[]) ∧ PInv W w' base I lk Q r v0 v1 m0 m1 w.heap.size (litN r.m) := by
  have hmode := h.com.rq.mode
  have HL : Hid (Calls Yba.prog 25 #[.pointer (some ⟨r.b, 0, none⟩)] w fun e w' => e = .returned (.slice (some ⟨w.heap.size, 0, none⟩) (litN r.m) (litN r.m)) ∧ w' = W) := by
    rw [hW]
    exact lists_any r.b r.m hmode w hc2
  have H0 : Hid (PInv W W base I lk Q r v0 v1 m0 m1 w.heap.size 0 ∧ (∃ n xs, W.ownsRow base 54 1 v0 n xs) ∧ (∃ n xs, W.ownsRow base 54 1 v1 n xs) ∧ (∀ b, v0.ownBlock = some b → v1.ownBlock ≠ some b) ∧ (r.m = 1 ∨ r.m = 2) ∧ ∀ j, ts (lk j) = j) := ⟨h, r0, r1, ap, hmode, hts⟩
  have hN : litN r.m ≤ 2 := by unfold litN; split <;> omega
  clear h r0 r1 ap hmode hts hc2 hW
  go_enter Yba.func16, Yba.ntmps16
  go_wp2_with (go_at_call 25; refine HL.out.mono ?_; rintro e w0 ⟨rfl, rfl⟩)
  go_loopw [11] (fun vi wr => ∃ j : Nat, j ≤ litN r.m ∧ vi = .int .i64 j ∧ PInv w0 wr base I lk Q r v0 v1 m0 m1 w.heap.size j) (fun vi _ => litN r.m - (intOf vi).toNat)
  case atStart => exact ⟨0, by omega, rfl, H0.out.1⟩
  case round =>
    obtain ⟨j, hj, rfl, hinv⟩ := hrel
    have HV : Hid (∀ k, PInv w0 (wr.drewN k) base I lk Q r v0 v1 m0 m1 w.heap.size j) := fun k => hinv.chg0 ((Chg.refl _ _).drewN k)
    by_cases hlt : j < litN r.m
    · have i1 : (j : Int) < (litN r.m : Int) := by omega
      have hlc : wr.cell? ⟨w.heap.size, j, none⟩ = some (.int .i64 j) := lit_cell H0.out.2.2.2.2.1 hinv.lit j hlt
      have hj2 : j = 0 ∨ j = 1 := by omega
      rcases hj2 with rfl | rfl
      · have hpre := hinv.pre0
        obtain ⟨a1, a2, ⟨x4, a3⟩, ⟨y4, a4⟩, ⟨y5, a5⟩, a6, a7, a8⟩ := hpre.cells
        have a7' : I ≠ r.b := Ne.symm a7
        have HT : Hid (∀ k, TailOk (linkW (wr.drewN k) I r.b 0 (Q.getLast?.map Req.b)) (wr.drewN k) base I 0 0 8 lk Q v0 r) := fun k => (HV.out k).pre0.tail ts H0.out.2.2.2.2.2 _ _ rfl rfl
        clear hinv hpre
        cases hlast : (Q).getLast?.map Req.b with
        | none =>
          rw [hlast] at a1 HT
          have a1' : wr.cell? ⟨I, 5, none⟩ = some (.pointer none) := a1
          clear a1 a8 hlast
          go_wp2
          go_quiet (fail)
          go_wp2
          generalize hW1 : ((((wr.drewN nq).setCell ⟨r.b, 4, none⟩ (.pointer none)).setCell ⟨r.b, 5, none⟩ (.pointer none)).setCell ⟨I, 4, none⟩ (.pointer (some ⟨r.b, 0, none⟩))).setCell ⟨I, 5, none⟩ (.pointer (some ⟨r.b, 0, none⟩)) = W1
          have hT : TailOk W1 (wr.drewN nq) base I 0 0 8 lk (Q) v0 r := by rw [← hW1]; exact HT.out nq
          obtain ⟨t0, t1, hT⟩ := hT
          have HT2 := hide hT
          clear hT hW1 HT a1' a2 a3 a4 a5 a6 hlc
          go_region_with (first
            | (go_at_call 27; refine HT2.out.mono ?_; rintro e w1 ⟨rfl, t2, hA⟩; have HA := hide hA; clear hA)
            | (go_at_call 26; refine HA.out.mono ?_; rintro e w2 ⟨rfl, hpost⟩; have HP := hide hpost; clear hpost))
          all_goals
            go_wp2
            go_roundw
            case rel => exact ⟨0 + 1, by omega, by go_num, by obtain ⟨_, _, r0⟩ := H0.out.2.1; exact (HV.out nq).step0 r0 H0.out.2.2.2.1 HP.out⟩
            case measure => simp [intOf]; omega
        | some b =>
          rw [hlast] at a1 HT
          have a1' : wr.cell? ⟨I, 5, none⟩ = some (.pointer (some ⟨b, 0, none⟩)) := a1
          obtain ⟨⟨z5, b1⟩, b2, b3, b4⟩ := a8 b hlast
          have b3' : I ≠ b := Ne.symm b3
          have b4' : r.b ≠ b := Ne.symm b4
          clear a1 a8 hlast
          go_wp2
          go_quiet (fail)
          go_wp2
          generalize hW1 : ((((wr.drewN nq).setCell ⟨r.b, 4, none⟩ (.pointer (some ⟨b, 0, none⟩))).setCell ⟨r.b, 5, none⟩ (.pointer none)).setCell ⟨b, 5, none⟩ (.pointer (some ⟨r.b, 0, none⟩))).setCell ⟨I, 5, none⟩ (.pointer (some ⟨r.b, 0, none⟩)) = W1
          have hT : TailOk W1 (wr.drewN nq) base I 0 0 8 lk (Q) v0 r := by rw [← hW1]; exact HT.out nq
          obtain ⟨t0, t1, hT⟩ := hT
          have HT2 := hide hT
          clear hT hW1 HT a1' a2 a3 a4 a5 a6 hlc b1 b2
          go_region_with (first
            | (go_at_call 27; refine HT2.out.mono ?_; rintro e w1 ⟨rfl, t2, hA⟩; have HA := hide hA; clear hA)
            | (go_at_call 26; refine HA.out.mono ?_; rintro e w2 ⟨rfl, hpost⟩; have HP := hide hpost; clear hpost))
          all_goals
            go_wp2
            go_roundw
            case rel => exact ⟨0 + 1, by omega, by go_num, by obtain ⟨_, _, r0⟩ := H0.out.2.1; exact (HV.out nq).step0 r0 H0.out.2.2.2.1 HP.out⟩
            case measure => simp [intOf]; omega
      · have hpre := hinv.pre1
        obtain ⟨a1, a2, ⟨x4, a3⟩, ⟨y4, a4⟩, ⟨y5, a5⟩, a6, a7, a8⟩ := hpre.cells
        have a7' : I ≠ r.b := Ne.symm a7
        have HT : Hid (∀ k, TailOk (linkW (wr.drewN k) I r.b 1 ((Q.filter isX).getLast?.map Req.b)) (wr.drewN k) base I 1 1 10 lk (Q.filter isX) v1 r) := fun k => (HV.out k).pre1.tail ts H0.out.2.2.2.2.2 _ _ rfl rfl
        clear hinv hpre
        cases hlast : (Q.filter isX).getLast?.map Req.b with
        | none =>
          rw [hlast] at a1 HT
          have a1' : wr.cell? ⟨I, 7, none⟩ = some (.pointer none) := a1
          clear a1 a8 hlast
          go_wp2
          go_quiet (fail)
          go_wp2
          generalize hW1 : ((((wr.drewN nq).setCell ⟨r.b, 6, none⟩ (.pointer none)).setCell ⟨r.b, 7, none⟩ (.pointer none)).setCell ⟨I, 6, none⟩ (.pointer (some ⟨r.b, 0, none⟩))).setCell ⟨I, 7, none⟩ (.pointer (some ⟨r.b, 0, none⟩)) = W1
          have hT : TailOk W1 (wr.drewN nq) base I 1 1 10 lk (Q.filter isX) v1 r := by rw [← hW1]; exact HT.out nq
          obtain ⟨t0, t1, hT⟩ := hT
          have HT2 := hide hT
          clear hT hW1 HT a1' a2 a3 a4 a5 a6 hlc
          go_region_with (first
            | (go_at_call 27; refine HT2.out.mono ?_; rintro e w1 ⟨rfl, t2, hA⟩; have HA := hide hA; clear hA)
            | (go_at_call 26; refine HA.out.mono ?_; rintro e w2 ⟨rfl, hpost⟩; have HP := hide hpost; clear hpost))
          all_goals
            go_wp2
            go_roundw
            case rel => exact ⟨1 + 1, by omega, by go_num, by obtain ⟨_, _, r1⟩ := H0.out.2.2.1; exact (HV.out nq).step1 r1 HP.out⟩
            case measure => simp [intOf]; omega
        | some b =>
          rw [hlast] at a1 HT
          have a1' : wr.cell? ⟨I, 7, none⟩ = some (.pointer (some ⟨b, 0, none⟩)) := a1
          obtain ⟨⟨z5, b1⟩, b2, b3, b4⟩ := a8 b hlast
          have b3' : I ≠ b := Ne.symm b3
          have b4' : r.b ≠ b := Ne.symm b4
          clear a1 a8 hlast
          go_wp2
          go_quiet (fail)
          go_wp2
          generalize hW1 : ((((wr.drewN nq).setCell ⟨r.b, 6, none⟩ (.pointer (some ⟨b, 0, none⟩))).setCell ⟨r.b, 7, none⟩ (.pointer none)).setCell ⟨b, 7, none⟩ (.pointer (some ⟨r.b, 0, none⟩))).setCell ⟨I, 7, none⟩ (.pointer (some ⟨r.b, 0, none⟩)) = W1
          have hT : TailOk W1 (wr.drewN nq) base I 1 1 10 lk (Q.filter isX) v1 r := by rw [← hW1]; exact HT.out nq
          obtain ⟨t0, t1, hT⟩ := hT
          have HT2 := hide hT
          clear hT hW1 HT a1' a2 a3 a4 a5 a6 hlc b1 b2
          go_region_with (first
            | (go_at_call 27; refine HT2.out.mono ?_; rintro e w1 ⟨rfl, t2, hA⟩; have HA := hide hA; clear hA)
            | (go_at_call 26; refine HA.out.mono ?_; rintro e w2 ⟨rfl, hpost⟩; have HP := hide hpost; clear hpost))
          all_goals
            go_wp2
            go_roundw
            case rel => exact ⟨1 + 1, by omega, by go_num, by obtain ⟨_, _, r1⟩ := H0.out.2.2.1; exact (HV.out nq).step1 r1 HP.out⟩
            case measure => simp [intOf]; omega
    · have hjj : j = litN r.m := by omega
      have hd : decide ((j : Int) < (litN r.m : Int)) = false := decide_eq_false (by omega)
      have HF : Hid (PInv w0 wr base I lk Q r v0 v1 m0 m1 w.heap.size (litN r.m)) := by rw [← hjj]; exact hinv
      clear hinv hjj
      go_wp2
      go_end0
      exact ⟨rfl, HF.out⟩

end Go.Proofs.Ybulkadpy
