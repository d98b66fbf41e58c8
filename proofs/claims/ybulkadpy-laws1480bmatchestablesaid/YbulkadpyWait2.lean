/-
  (*lockRequest).wait.
-/
import Derived.Test.YbulkadpyWait
namespace Go.Proofs.Ybulkadpy
open Go.RowKit
open Go.ChangeMaps (setBlock)

def IsMap (w : World) (b : Nat) : Prop := ∃ es c, w.heap[b]? = some (.map es c)

theorem Ty.notMap {w : World} {b : Nat} {ty : TypeId} {n : Nat} (h : Ty w b ty n) : ¬ IsMap w b := fun ⟨es, c, e⟩ => by
  obtain ⟨cs, h1, _⟩ := h
  rw [e] at h1
  cases h1

theorem CChg.trans' {S T : Nat → Nat → Prop} {a b c : World} (h : CChg S a b) (k : CChg T b c) (hst : ∀ i j, i < a.heap.size → T i j → S i j) : CChg S a c :=
  ⟨k.os.trans h.os, k.tape.trans h.tape, k.output.trans h.output, Nat.le_trans h.size k.size, fun i hi hs => (k.block i (Nat.lt_of_lt_of_le hi h.size) (fun j hj => hs j (hst i j hi hj))).trans (h.block i hi hs), fun i cs ty hi hs => by
    have hlt := heap_lt hi
    obtain ⟨c1, h1, h2, h3⟩ := h.cells i cs ty hi hs
    obtain ⟨j0, hj0⟩ := hs
    obtain ⟨c2, k1, k2, k3⟩ := k.cells i c1 ty h1 ⟨j0, fun hj => hj0 (hst i j0 hlt hj)⟩
    exact ⟨c2, k1, k2.trans h2, fun j hj => (k3 j (fun hx => hj (hst i j hlt hx))).trans (h3 j hj)⟩⟩

/-- The holders of the item, as its map has them. -/
structure Hld (w : World) (HM : Nat) (es : Array MapEntry) (lk aw : Nat → Nat) : Prop where
  hm : w.heap[HM]? = some (.map es es.size)
  old : ∀ x ∈ es.toList, x.born < es.size
  nd : (es.toList.map (·.born)).Nodup
  keys : ∀ x ∈ es.toList, ∃ i, x.key = lp (lk i) ∧ Ty w (lk i) 48 7 ∧ w.cell? ⟨lk i, 5, none⟩ = some (.map (some (aw i)))
  inj : ∀ x ∈ es.toList, ∀ y ∈ es.toList, x.key = y.key → x.born = y.born

/-- What wait is given. -/
structure WPre (w : World) (base I HM : Nat) (lk aw : Nat → Nat) (Q : List Req) (r : Req) (es : Array MapEntry) (a : Bool) : Prop where
  com : Com w base I lk Q r
  both : QBoth w base I lk Q (Q.filter isX)
  c13 : w.cell? ⟨I, 13, none⟩ = some (.bool a)
  c0 : w.cell? ⟨I, 0, none⟩ = some (.map (some HM))
  hld : Hld w HM es lk aw
  fresh : a = false → ∀ x ∈ es.toList, ∀ i, x.key = lp (lk i) → w.heap[aw i]? = some (.map #[] 0)
  lki : ∀ i j, lk i = lk j → i = j
  awi : ∀ i j, aw i = aw j → i = j
  awHM : ∀ i, aw i ≠ HM

/-- What the making of the holders awaited turns. -/
def SW1 (w : World) (I HM : Nat) (aw : Nat → Nat) (b k : Nat) : Prop := (b = I ∧ k = 13) ∨ (IsMap w b ∧ b ≠ HM ∧ ∃ i, b = aw i)

/-- What wait turns. -/
def SWait (w : World) (base I HM : Nat) (lk aw : Nat → Nat) (Q : List Req) (r : Req) (b k : Nat) : Prop :=
  SAll w base I Q r b k ∨ SW1 w I HM aw b k ∨ (b = lk r.u ∧ k = 6)

/-- What wait leaves. -/
structure WPost (w : World) (base I HM : Nat) (lk aw : Nat → Nat) (Q : List Req) (r : Req) (w' : World) : Prop where
  cc : CChg (SWait w base I HM lk aw Q r) w w'
  both : QBoth w' base I lk (Q ++ [r]) ((Q ++ [r]).filter isX)
  all : ∀ x ∈ Q ++ [r], RQ w' I lk x ∧ LQ w' lk x.u ∧ w'.cell? ⟨lk x.u, 6, none⟩ = some (lp x.b)
  c13 : w'.cell? ⟨I, 13, none⟩ = some (.bool true)

section
variable {w W : World} {base I HM : Nat} {lk aw : Nat → Nat} {Q : List Req} {r : Req} {es : Array MapEntry} {a : Bool}

theorem QS.sw1 {l : Nat} {L : List Req} {v : Value} {lim : Int} (h : QS w base I l lk L v lim) (hl : l ≤ 1) (tI : Ty w I 68 14) (tL : ∀ x ∈ L, Ty w x.b 82 8) (hc : CChg (SW1 w I HM aw) w W) : QS W base I l lk L v lim := by
  have hI : ∀ k, k < 12 → ¬ SW1 w I HM aw I k := by
    rintro k hk (⟨_, e⟩ | ⟨e, _⟩)
    · omega
    · exact tI.notMap e
  refine ⟨tI.cell hc (hI _ (by omega)) h.first, tI.cell hc (hI _ (by omega)) h.last, tI.cell hc (hI _ (by omega)) h.rowv, tI.cell hc (hI _ (by omega)) h.limv, ownsRow_cc h.row hc ?_, h.lims, ?_⟩
  · rintro b hb k (⟨e, _⟩ | ⟨e, _⟩)
    · exact tI.neRow h.row (by decide) (by rw [hb, e])
    · obtain ⟨_, cur, hcur⟩ := row_ty h.row hb
      obtain ⟨es, c, e⟩ := e
      rw [hcur] at e
      cases e
  · intro i x hx
    have hm : x ∈ L := List.mem_iff_getElem?.2 ⟨i, hx⟩
    refine (tL x hm).cell hc ?_ (h.next i x hx)
    rintro (⟨e, _⟩ | ⟨e, _⟩)
    · exact (tL x hm).ne tI (by decide) e
    · exact (tL x hm).notMap e

theorem WPre.mid (h : WPre w base I HM lk aw Q r es a) (hc : CChg (SW1 w I HM aw) w W) : Com W base I lk Q r ∧ QBoth W base I lk Q (Q.filter isX) := by
  obtain ⟨v0, m0, v1, m1, h0, h1, hap⟩ := h.both
  refine ⟨h.com.keep hc ⟨0, ?_⟩ ?_ ?_, v0, m0, v1, m1, h0.sw1 (by omega) h.com.tI (fun x hx => h.com.tyQ (by simp [hx])) hc, h1.sw1 (by omega) h.com.tI (fun x hx => h.com.tyQ (by simp [(filter_sub Q).subset hx])) hc, hap⟩
  · rintro (⟨_, e⟩ | ⟨e, _⟩)
    · omega
    · exact h.com.tI.notMap e
  · rintro x hx k hk (⟨_, e⟩ | ⟨e, _⟩)
    · omega
    · exact (h.com.tyQ hx).notMap e
  · rintro j k hj (⟨e, _⟩ | ⟨e, _⟩)
    · exact hj.ty.ne h.com.tI (by decide) e
    · exact hj.ty.notMap e

/-- The end of wait: the push, and 't.req = q'. -/
theorem WPre.push (ts : Nat → Int) (hts : ∀ j, ts (lk j) = j) (h : WPre w base I HM lk aw Q r es a) (hc : CChg (SW1 w I HM aw) w W) (h13 : W.cell? ⟨I, 13, none⟩ = some (.bool true)) :
    Calls Yba.prog 16 #[.pointer (some ⟨I, 4, none⟩), .pointer (some ⟨r.b, 0, none⟩)] W fun e w' => e = .returned (.tuple #[]) ∧ w'.cell? ⟨r.b, 0, none⟩ = some (.pointer (some ⟨lk r.u, 0, none⟩)) ∧ (∃ v, w'.cell? ⟨lk r.u, 6, none⟩ = some v) ∧ w'.frozen? ⟨lk r.u, 6, none⟩ = false ∧
      WPost w base I HM lk aw Q r (w'.setCell ⟨lk r.u, 6, none⟩ (.pointer (some ⟨r.b, 0, none⟩))) := by
  obtain ⟨hC, hB⟩ := h.mid hc
  refine (push_ok ts W base I lk hts Q r hC hB).mono ?_
  rintro e w' ⟨he, hcc, hC', hB'⟩
  obtain ⟨z, hz⟩ := hC'.lq.ty.some 6 (by omega)
  refine ⟨he, hC'.rq.c0, ⟨z, hz⟩, hC'.lq.ty.frozen 6, ?_⟩
  have hcx : CChg (fun b k => b = lk r.u ∧ k = 6) w' (w'.setCell ⟨lk r.u, 6, none⟩ (.pointer (some ⟨r.b, 0, none⟩))) := (CChg.refl _ _).setCell (lk r.u) 6 ⟨rfl, rfl⟩ _
  have hSA : ∀ b k, b < w.heap.size → SAll W base I Q r b k → SWait w base I HM lk aw Q r b k := by
    rintro b k hb (h1 | h1 | ⟨h1, cur, h2⟩)
    · exact .inl (.inl h1)
    · exact .inl (.inr (.inl h1))
    · by_cases hm : IsMap w b ∧ b ≠ HM ∧ ∃ i, b = aw i
      · exact .inr (.inl (.inr hm))
      · refine .inl (.inr (.inr ⟨h1, cur, ?_⟩))
        rw [← hc.block b hb ?_]
        · exact h2
        · rintro k (⟨e, _⟩ | e)
          · subst e
            obtain ⟨cs, h3, _⟩ := hC.tI
            rw [h2] at h3
            cases h3
          · exact hm e
  have hnI : ∀ k, ¬ (I = lk r.u ∧ k = 6) := fun k ⟨e, _⟩ => h.com.lq.ty.ne h.com.tI (by decide) e.symm
  have hnx : ∀ x ∈ Q ++ [r], ∀ k, ¬ (x.b = lk r.u ∧ k = 6) := fun x hx k ⟨e, _⟩ => (h.com.tyQ hx).ne h.com.lq.ty (by decide) e
  refine ⟨((hc.mono (fun _ _ _ h => .inr (.inl h))).trans' hcc hSA).trans (hcx.mono (fun _ _ _ h => .inr (.inr h))), ?_, ?_, ?_⟩
  · obtain ⟨v0, m0, v1, m1, h0, h1, hap⟩ := hB'
    have key : ∀ l L v lim, l ≤ 1 → (∀ x ∈ L, x ∈ Q ++ [r]) → QS w' base I l lk L v lim → QS (w'.setCell ⟨lk r.u, 6, none⟩ (.pointer (some ⟨r.b, 0, none⟩))) base I l lk L v lim := fun l L v lim _ hL hq =>
      ⟨hC'.tI.cell hcx (hnI _) hq.first, hC'.tI.cell hcx (hnI _) hq.last, hC'.tI.cell hcx (hnI _) hq.rowv, hC'.tI.cell hcx (hnI _) hq.limv, ownsRow_cc hq.row hcx (by
        rintro b hb k ⟨e, _⟩
        exact hC'.lq.ty.neRow hq.row (by decide) (by rw [hb, e])), hq.lims, fun i x hx => by
        have hm := hL x (List.mem_iff_getElem?.2 ⟨i, hx⟩)
        exact (hC'.tyQ hm).cell hcx (hnx x hm _) (hq.next i x hx)⟩
    exact ⟨v0, m0, v1, m1, key 0 _ _ _ (by omega) (fun _ h => h) h0, key 1 _ _ _ (by omega) (fun x hx => (filter_sub _).subset hx) h1, hap⟩
  · intro x hx
    rcases List.mem_append.1 hx with hx' | hx'
    · obtain ⟨h1, h2, h3, h4⟩ := hC'.old x hx'
      refine ⟨h1.keep hcx (fun k _ => hnx x hx k), h2.keep hcx (by omega), h2.ty.cell hcx ?_ h3⟩
      rintro ⟨e, _⟩
      have := h.lki _ _ e
      omega
    · have hxr : x = r := by simpa using hx'
      subst hxr
      exact ⟨hC'.rq.keep hcx (fun k _ => hnx x hx k), hC'.lq.keep hcx (by omega), cell_set_same _ hz⟩
  · refine hC'.tI.cell hcx (hnI _) (hC.tI.cell hcc ?_ h13)
    rintro (⟨_, _, e⟩ | ⟨⟨x, hx, e⟩, _⟩ | ⟨_, cur, e⟩)
    · omega
    · exact (hC.tyQ hx).ne hC.tI (by decide) e.symm
    · obtain ⟨cs, h1, _⟩ := hC.tI
      rw [e] at h1
      cases h1
end

end Go.Proofs.Ybulkadpy
