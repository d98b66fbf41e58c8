/-
  The lock queue: behind the links, the heap of ages.
-/
import Derived.Test.YbulkadpyQ
namespace Go.Proofs.Ybulkadpy
open Go.RowKit
open Go.ChangeMaps (setBlock)

theorem pw_mono {α : Type} {R S : α → α → Prop} (h : ∀ a b, R a b → S a b) {l : List α} (hl : l.Pairwise R) : l.Pairwise S := by
  induction l with
  | nil => exact List.Pairwise.nil
  | cons a l ih =>
    rw [List.pairwise_cons] at hl ⊢
    exact ⟨fun b hb => h a b (hl.1 b hb), ih hl.2⟩

/-- What a round of push is given: list l holds L; r is to come. -/
structure RPre (w : World) (base I l : Nat) (lk : Nat → Nat) (L : List Req) (v : Value) (lim : Int) (r : Req) : Prop where
  qs : QS w base I l lk L v lim
  hl : l ≤ 1
  tI : Ty w I 68 14
  rq : RQ w I lk r
  lq : LQ w lk r.u
  old : ∀ x ∈ L, RQ w I lk x ∧ LQ w lk x.u ∧ w.cell? ⟨lk x.u, 6, none⟩ = some (lp x.b) ∧ (l = 1 → x.m = 2) ∧ x.u < r.u
  up : L.Pairwise (fun a b => a.u < b.u)
  nd : ((L ++ [r]).map Req.b).Nodup
  len : L.length ≤ 300
  base : base ≤ w.heap.size

/-- What a round of push leaves. -/
def RPost (w : World) (base I l : Nat) (lk : Nat → Nat) (L : List Req) (v : Value) (r : Req) (w2 : World) : Prop :=
  CChg (SPush I r.b l L v) w w2 ∧ ∃ v' lim', QS w2 base I l lk (L ++ [r]) v' lim' ∧ (v'.ownBlock = v.ownBlock ∨ ∃ g, v'.ownBlock = some g ∧ w.heap.size ≤ g)

section
variable {w W : World} {base I l : Nat} {lk : Nat → Nat} {L : List Req} {v : Value} {lim : Int} {r : Req}

theorem SLink.ge {q b k : Nat} (h : SLink I q l L b k) : 4 ≤ k := by
  rcases h with ⟨_, h⟩ | ⟨_, h⟩ | ⟨_, h⟩ <;> omega

theorem RPre.linked (h : RPre w base I l lk L v lim r) : Linked w (linkW w I r.b l (L.getLast?.map Req.b)) I l L r :=
  linked_of h.qs h.hl h.tI h.rq.ty (fun x hx => (h.old x hx).1.ty) h.nd

/-- A locker is turned by no link. -/
theorem RPre.notLink (h : RPre w base I l lk L v lim r) {j : Nat} (hj : LQ w lk j) (k : Nat) : ¬ SLink I r.b l L (lk j) k := by
  rintro (⟨e, _⟩ | ⟨e, _⟩ | ⟨⟨x, hx, e⟩, _⟩)
  · exact hj.ty.ne h.tI (by decide) e
  · exact hj.ty.ne h.rq.ty (by decide) e
  · exact hj.ty.ne (h.old x hx).1.ty (by decide) e

theorem RPre.rowLink (h : RPre w base I l lk L v lim r) (b : Nat) (hb : v.ownBlock = some b) (k : Nat) : ¬ SLink I r.b l L b k := by
  rintro (⟨e, _⟩ | ⟨e, _⟩ | ⟨⟨x, hx, e⟩, _⟩)
  · exact h.tI.neRow h.qs.row (by decide) (by rw [hb, e])
  · exact h.rq.ty.neRow h.qs.row (by decide) (by rw [hb, e])
  · exact (h.old x hx).1.ty.neRow h.qs.row (by decide) (by rw [hb, e])

theorem tail_any (ts : Nat → Int) (hts : ∀ j, ts (lk j) = j) (h : RPre w base I l lk L v lim r) (hL : Linked w W I l L r) :
    Calls Yba.prog 27 #[.pointer (some ⟨I, 0, none⟩), .int .i64 l] W.drew fun e w1 => e = .returned (.func (.func 53) #[] #[.pointer (some ⟨W.heap.size, 0, none⟩), .pointer (some ⟨W.heap.size + 1, 0, none⟩)]) ∧ w1.cell? ⟨r.b, 0, none⟩ = some (.pointer (some ⟨lk r.u, 0, none⟩)) ∧
      Calls Yba.prog 26 #[.pointer (some ⟨I, 8 + 2 * l, none⟩), .pointer (some ⟨lk r.u, 0, none⟩), .func (.func 53) #[] #[.pointer (some ⟨W.heap.size, 0, none⟩), .pointer (some ⟨W.heap.size + 1, 0, none⟩)]] w1 fun e w2 => e = .returned (.tuple #[]) ∧ RPost w base I l lk L v r w2 := by
  refine (waitsOn_any I l W.drew).mono ?_
  rintro e w1 ⟨rfl, hw1⟩
  have hcW : Chg (fun _ => False) W w1 := by rw [hw1]; exact ((Chg.refl _ _).drew.alloc _).alloc _
  have hc1 : CChg (SLink I r.b l L) w w1 := hL.cc.trans (hcW.cc.mono (fun _ _ _ h => h.elim))
  have hrq1 : RQ w1 I lk r := h.rq.keep hc1 (fun k hk hs => by have := hs.ge; omega)
  have hIv : v.ownBlock ≠ some I := h.tI.neRow h.qs.row (by decide)
  have tI1 : Ty w1 I 68 14 := h.tI.keep hc1 ⟨0, fun hs => by have := hs.ge; omega⟩
  obtain ⟨c, hcI, hcs⟩ := tI1
  have tI1 : Ty w1 I 68 14 := ⟨c, hcI, hcs⟩
  have hrow1 : w1.ownsRow base 54 1 v L.length ((L.map fun r => lk r.u).map lp) := ownsRow_cc h.qs.row hc1 h.rowLink
  obtain ⟨ao, cap, hv, _⟩ := owns_form h.qs.row
  have hB : w1.cell? ⟨W.heap.size, 0, none⟩ = some (.pointer (some ⟨I, 0, none⟩)) := by
    rw [hw1]
    exact ((Chg.refl (fun _ => False) _).alloc _).cell (cell_of (heap_alloc_new W.drew _) rfl)
  have hC : w1.cell? ⟨W.heap.size + 1, 0, none⟩ = some (.int .i64 l) := by
    rw [hw1]
    have e2 := heap_alloc_new (W.drew.alloc (.cells #[.pointer (some ⟨I, 0, none⟩)] 57)) (.cells #[.int .i64 l] 3)
    rw [show (W.drew.alloc (.cells #[.pointer (some ⟨I, 0, none⟩)] 57)).heap.size = W.heap.size + 1 by show (W.heap.push _).size = _; simp] at e2
    exact cell_of e2 rfl
  have hpre : AddPre w1 base I (8 + 2 * l) l c v (L.map fun r => lk r.u) ts (lk r.u) W.heap.size (W.heap.size + 1) lim := by
    refine ⟨⟨hcI, of_cell hcI (hcW.cell ((hL.keep8 _ (by omega)).trans h.qs.rowv)), by rw [List.length_map]; exact hrow1, hIv, Nat.le_trans h.base hc1.size⟩, of_cell hcI (hcW.cell ((hL.keep8 _ (by omega)).trans h.qs.limv)), ?_, by rw [List.length_map]; exact h.len, ⟨?_, ?_⟩, ?_, ?_, ?_, hB, hC⟩
    · rcases h.qs.lims with ⟨h1, h2⟩ | h1
      · exact .inl ⟨h1, by rw [h2]; rfl⟩
      · exact .inr h1
    · intro u hu
      obtain ⟨x, hx, rfl⟩ := List.mem_map.1 hu
      rw [hts]
      exact ((h.old x hx).2.1.keep hc1 (h.notLink (h.old x hx).2.1 1)).lk
    · rw [List.pairwise_map]
      refine pw_mono (fun a b hab => ?_) h.up
      rw [hts, hts]
      omega
    · rw [hts]
      exact (h.lq.keep hc1 (h.notLink h.lq 1)).lk
    · intro u hu
      obtain ⟨x, hx, rfl⟩ := List.mem_map.1 hu
      have := (h.old x hx).2.2.2.2
      rw [hts, hts]
      omega
    · intro u hu
      obtain ⟨x, hx, rfl⟩ := List.mem_map.1 hu
      obtain ⟨x1, x2, x3, x4, _⟩ := h.old x hx
      have y1 : RQ w1 I lk x := x1.keep hc1 (fun k hk hs => by have := hs.ge; omega)
      refine ⟨x.b, x.m, x2.ty.cell hc1 (h.notLink x2 6) x3, y1.c1, y1.c2, ?_⟩
      rcases x1.mode with hm | hm
      · refine .inr ⟨hm, ?_⟩
        have := h.hl
        by_cases h1 : l = 1
        · have := x4 h1; omega
        · omega
      · refine .inl ⟨hm, ?_⟩
        have := h.hl
        omega
  refine ⟨by rw [show W.drew.heap.size = W.heap.size from rfl]; rfl, hrq1.c0, ?_⟩
  have hv2 : v = .slice ao (L.map fun r => lk r.u).length cap := by rw [hv, List.length_map]
  rw [hv2] at hpre
  refine (add_any hpre).mono ?_
  rintro e w2 ⟨he, hpost⟩
  rw [← hv2] at hpost
  obtain ⟨hcc, g, cp, lim', q1, q2, q3, q4, q5⟩ := hpost.cc hcI hIv (by have := h.hl; omega)
  refine ⟨he, (hc1.mono (fun _ _ _ h => .inl h)).trans (hcc.mono (fun _ _ _ h => .inr h)), .slice (some ⟨g, 0, none⟩) (L.length + 1) cp, lim', ⟨?_, ?_, ?_, q3, ?_, .inr q1, ?_⟩, ?_⟩
  · refine tI1.cell hcc ?_ (hcW.cell hL.first)
    rintro (⟨_, e⟩ | e)
    · omega
    · exact hIv e
  · refine tI1.cell hcc ?_ (hcW.cell hL.last)
    rintro (⟨_, e⟩ | e)
    · omega
    · exact hIv e
  · rw [List.length_map] at q2
    exact q2
  · rw [List.length_map] at q4
    simpa using q4
  · intro i x hx
    have hm : x ∈ L ++ [r] := List.mem_iff_getElem?.2 ⟨i, hx⟩
    have tx : Ty w x.b 82 8 := by
      rcases List.mem_append.1 hm with hm | hm
      · exact (h.old x hm).1.ty
      · simp at hm; subst hm; exact h.rq.ty
    have tx1 : Ty w1 x.b 82 8 := tx.keep hc1 ⟨0, fun hs => by have := hs.ge; omega⟩
    refine tx1.cell hcc ?_ (hcW.cell (hL.next i x hx))
    rintro (⟨e, _⟩ | e)
    · exact tx.ne h.tI (by decide) e
    · exact tx.neRow h.qs.row (by decide) e
  · rcases q5 with q5 | q5
    · exact .inl (by rw [q5]; rfl)
    · exact .inr ⟨g, rfl, Nat.le_trans hc1.size q5⟩
end

end Go.Proofs.Ybulkadpy
