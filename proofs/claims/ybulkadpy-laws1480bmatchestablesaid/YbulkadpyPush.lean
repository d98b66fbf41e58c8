/-
  (*lockQueue).push.
-/
import Derived.Test.YbulkadpyQ3
namespace Go.Proofs.Ybulkadpy
open Go.RowKit
open Go.ChangeMaps (setBlock)

/-- What stands behind j rounds of push. -/
structure PInv (W wr : World) (base I : Nat) (lk : Nat → Nat) (Q : List Req) (r : Req) (v0 v1 : Value) (m0 m1 : Int) (g j : Nat) : Prop where
  cc : CChg (SAll W base I Q r) W wr
  com : Com wr base I lk Q r
  z0 : j = 0 → QS wr base I 0 lk Q v0 m0
  z1 : 1 ≤ j → ∃ v m, QS wr base I 0 lk (Q ++ [r]) v m ∧ ∀ b, v.ownBlock = some b → v1.ownBlock ≠ some b
  o0 : j ≤ 1 → QS wr base I 1 lk (Q.filter isX) v1 m1
  o1 : 2 ≤ j → QBoth wr base I lk (Q ++ [r]) (Q.filter isX ++ [r])
  lit : wr.heap[g]? = some (litO r.m)

theorem filter_sub (Q : List Req) : (Q.filter isX).Sublist Q := List.filter_sublist
theorem filter_m {Q : List Req} {x : Req} (h : x ∈ Q.filter isX) : x.m = 2 := by
  have := (List.mem_filter.1 h).2
  simpa [isX] using this

section
variable {W wr w2 : World} {base I : Nat} {lk : Nat → Nat} {Q : List Req} {r : Req} {v0 v1 : Value} {m0 m1 : Int} {g : Nat}

theorem litO_cells (m : Int) : ∃ cs, litO m = .cells cs 3 (0, 0) := by
  unfold litO
  split <;> exact ⟨_, rfl⟩

theorem lit_keep {l : Nat} {L : List Req} {v : Value} {n : Nat} {xs : List Value} (hC : Com wr base I lk Q r) (hs : L.Sublist Q) (hrow : wr.ownsRow base 54 1 v n xs) (hg : wr.heap[g]? = some (litO r.m)) (hc : CChg (SPush I r.b l L v) wr w2) : w2.heap[g]? = some (litO r.m) := by
  obtain ⟨cs, hcs⟩ := litO_cells r.m
  have hT : Ty wr g 3 cs.size := ⟨cs, by rw [hg, hcs], rfl⟩
  rw [hc.block g (heap_lt hg) ?_, hg]
  rintro k ((⟨e, _⟩ | ⟨e, _⟩ | ⟨⟨x, hx, e⟩, _⟩) | (⟨e, _⟩ | e))
  · exact hT.ne hC.tI (by decide) e
  · exact hT.ne hC.rq.ty (by decide) e
  · exact hT.ne (hC.tyQ (x := x) (by simp [hs.subset hx])) (by decide) e
  · exact hT.ne hC.tI (by decide) e
  · exact hT.neRow hrow (by decide) e

theorem PInv.pre0 (h : PInv W wr base I lk Q r v0 v1 m0 m1 g 0) : RPre wr base I 0 lk Q v0 m0 r := h.com.pre (List.Sublist.refl _) (by omega) (by omega) (h.z0 rfl)
theorem PInv.pre1 (h : PInv W wr base I lk Q r v0 v1 m0 m1 g 1) : RPre wr base I 1 lk (Q.filter isX) v1 m1 r := h.com.pre (filter_sub Q) (by omega) (fun _ _ hx => filter_m hx) (h.o0 (by omega))

theorem RPost.com {l : Nat} {L : List Req} {v : Value} {n : Nat} {xs : List Value} (hC : Com wr base I lk Q r) (hs : L.Sublist Q) (hl : l ≤ 1) (hrow : wr.ownsRow base 54 1 v n xs) (hc : CChg (SPush I r.b l L v) wr w2) : Com w2 base I lk Q r :=
  hC.sall (hc.mono fun _ _ _ h => SPush.all hs hl hrow h)

theorem PInv.step0 {n : Nat} {xs : List Value} (h : PInv W wr base I lk Q r v0 v1 m0 m1 g 0) (r0 : W.ownsRow base 54 1 v0 n xs) (ap : ∀ b, v0.ownBlock = some b → v1.ownBlock ≠ some b) (hp : RPost wr base I 0 lk Q v0 r w2) : PInv W w2 base I lk Q r v0 v1 m0 m1 g 1 := by
  obtain ⟨hc, v', l', hq, hwhere⟩ := hp
  have hq0 := h.z0 rfl
  have hq1 := h.o0 (by omega)
  refine ⟨h.cc.trans (hc.mono fun _ _ _ hx => SPush.all (List.Sublist.refl _) (by omega) r0 hx), RPost.com h.com (List.Sublist.refl _) (by omega) hq0.row hc, by omega, fun _ => ⟨v', l', hq, ?_⟩, fun _ => ?_, by omega, lit_keep h.com (List.Sublist.refl _) hq0.row h.lit hc⟩
  · intro b hb hb1
    rcases hwhere with e | ⟨g2, e, hge⟩
    · exact ap b (by rw [← e]; exact hb) hb1
    · have h2 : g2 = b := by rw [e] at hb; simpa using hb
      obtain ⟨_, cur, hcur⟩ := row_ty hq1.row hb1
      have := heap_lt hcur
      omega
  · exact hq1.other (by omega) h.com.tI h.com.rq.ty (fun x hx => h.com.tyQ (by simp [(filter_sub Q).subset hx])) (fun x hx => h.com.tyQ (by simp [hx])) (by omega) (by omega) hq0.row (fun b hb hb0 => ap b hb0 hb) hc

theorem PInv.step1 {n : Nat} {xs : List Value} (h : PInv W wr base I lk Q r v0 v1 m0 m1 g 1) (r1 : W.ownsRow base 54 1 v1 n xs) (hp : RPost wr base I 1 lk (Q.filter isX) v1 r w2) : PInv W w2 base I lk Q r v0 v1 m0 m1 g 2 := by
  obtain ⟨hc, v', l', hq, hwhere⟩ := hp
  obtain ⟨va, ma, hqa, hap⟩ := h.z1 (by omega)
  have hq1 := h.o0 (by omega)
  have hqa2 : QS w2 base I 0 lk (Q ++ [r]) va ma := hqa.other (by omega) h.com.tI h.com.rq.ty (fun x hx => h.com.tyQ hx) (fun x hx => h.com.tyQ (by simp [(filter_sub Q).subset hx])) (by omega) (by omega) hq1.row hap hc
  have hap2 : ∀ b, va.ownBlock = some b → v'.ownBlock ≠ some b := by
    intro b hb hb1
    rcases hwhere with e | ⟨g2, e, hge⟩
    · exact hap b hb (by rw [← e]; exact hb1)
    · have h2 : g2 = b := by rw [e] at hb1; simpa using hb1
      obtain ⟨_, cur, hcur⟩ := row_ty hqa.row hb
      have := heap_lt hcur
      omega
  exact ⟨h.cc.trans (hc.mono fun _ _ _ hx => SPush.all (filter_sub Q) (by omega) r1 hx), RPost.com h.com (filter_sub Q) (by omega) hq1.row hc, by omega, fun _ => ⟨va, ma, hqa2, fun b hb hb1 => by
    rcases hwhere with e | ⟨g2, e, hge⟩
    · exact hap b hb hb1
    · exact hap b hb hb1⟩, by omega, fun _ => ⟨va, ma, v', l', hqa2, hq, hap2⟩, lit_keep h.com (filter_sub Q) hq1.row h.lit hc⟩
end

end Go.Proofs.Ybulkadpy
