/-
  The lock queue: both lists, over a push.
-/
import Derived.Test.YbulkadpyQ2
namespace Go.Proofs.Ybulkadpy
open Go.RowKit
open Go.ChangeMaps (setBlock)

section
variable {w w2 : World} {base I l l' : Nat} {lk : Nat → Nat} {L L' : List Req} {v v' : Value} {lim' : Int} {r : Req} {n : Nat} {xs : List Value}

theorem QS.other (h' : QS w base I l' lk L' v' lim') (hne : l ≠ l') (tI : Ty w I 68 14) (tr : Ty w r.b 82 8) (tL' : ∀ x ∈ L', Ty w x.b 82 8) (tL : ∀ x ∈ L, Ty w x.b 82 8) (hl : l ≤ 1) (hl' : l' ≤ 1)
    (rowL : w.ownsRow base 54 1 v n xs) (apart : ∀ b, v'.ownBlock = some b → v.ownBlock ≠ some b) (hc : CChg (SPush I r.b l L v) w w2) : QS w2 base I l' lk L' v' lim' := by
  have hIv : v.ownBlock ≠ some I := tI.neRow rowL (by decide)
  have hI : ∀ k, (k = 4 + 2 * l' ∨ k = 5 + 2 * l' ∨ k = 8 + 2 * l' ∨ k = 8 + 2 * l' + 1) → ¬ SPush I r.b l L v I k := by
    rintro k hk ((⟨_, e⟩ | ⟨e, _⟩ | ⟨⟨x, hx, e⟩, _⟩) | (⟨_, e⟩ | e))
    · omega
    · exact tI.ne tr (by decide) e
    · exact tI.ne (tL x hx) (by decide) e
    · omega
    · exact hIv e
  refine ⟨tI.cell hc (hI _ (by omega)) h'.first, tI.cell hc (hI _ (by omega)) h'.last, tI.cell hc (hI _ (by omega)) h'.rowv, tI.cell hc (hI _ (by omega)) h'.limv, ownsRow_cc h'.row hc ?_, h'.lims, ?_⟩
  · rintro b hb k ((⟨e, _⟩ | ⟨e, _⟩ | ⟨⟨x, hx, e⟩, _⟩) | (⟨e, _⟩ | e))
    · exact tI.neRow h'.row (by decide) (by rw [hb, e])
    · exact tr.neRow h'.row (by decide) (by rw [hb, e])
    · exact (tL x hx).neRow h'.row (by decide) (by rw [hb, e])
    · exact tI.neRow h'.row (by decide) (by rw [hb, e])
    · exact apart b hb e
  · intro i x hx
    have hm : x ∈ L' := List.mem_iff_getElem?.2 ⟨i, hx⟩
    refine (tL' x hm).cell hc ?_ (h'.next i x hx)
    rintro ((⟨e, _⟩ | ⟨_, e⟩ | ⟨_, e⟩) | (⟨e, _⟩ | e))
    · exact (tL' x hm).ne tI (by decide) e
    · omega
    · omega
    · exact (tL' x hm).ne tI (by decide) e
    · exact (tL' x hm).neRow rowL (by decide) e
end

/-- The two lists. -/
def QBoth (w : World) (base I : Nat) (lk : Nat → Nat) (A B : List Req) : Prop :=
  ∃ v0 m0 v1 m1, QS w base I 0 lk A v0 m0 ∧ QS w base I 1 lk B v1 m1 ∧ ∀ b, v0.ownBlock = some b → v1.ownBlock ≠ some b

/-- What stands over a push. -/
structure Com (w : World) (base I : Nat) (lk : Nat → Nat) (Q : List Req) (r : Req) : Prop where
  tI : Ty w I 68 14
  rq : RQ w I lk r
  lq : LQ w lk r.u
  old : ∀ x ∈ Q, RQ w I lk x ∧ LQ w lk x.u ∧ w.cell? ⟨lk x.u, 6, none⟩ = some (lp x.b) ∧ x.u < r.u
  up : Q.Pairwise (fun a b => a.u < b.u)
  nd : ((Q ++ [r]).map Req.b).Nodup
  len : Q.length ≤ 300
  base : base ≤ w.heap.size

/-- What a push turns, in all. -/
def SAll (w : World) (base I : Nat) (Q : List Req) (r : Req) (b k : Nat) : Prop :=
  (b = I ∧ 4 ≤ k ∧ k ≤ 11) ∨ ((∃ x ∈ Q ++ [r], b = x.b) ∧ 4 ≤ k) ∨ (base ≤ b ∧ ∃ cur, w.heap[b]? = some (.cells cur 54 (0, 0)))

def isX (x : Req) : Bool := decide (x.m = 2)

section
variable {w w2 : World} {base I l : Nat} {lk : Nat → Nat} {Q L : List Req} {v : Value} {lim : Int} {r : Req}

theorem row_ty {w : World} {base e : Nat} {v : Value} {n : Nat} {xs : List Value} (h : w.ownsRow base e 1 v n xs) {b : Nat} (hb : v.ownBlock = some b) : base ≤ b ∧ ∃ cur, w.heap[b]? = some (.cells cur e (0, 0)) := by
  obtain ⟨_, ⟨rfl, _⟩ | ⟨g, cap, cur, rfl, hbs, hg, _⟩⟩ := h
  · cases hb
  · have : g = b := by simpa [Value.ownBlock] using hb
    subst this
    exact ⟨hbs, cur, hg⟩

theorem Com.keep {S : Nat → Nat → Prop} (h : Com w base I lk Q r) (hc : CChg S w w2) (hI : ∃ k, ¬ S I k) (hr : ∀ x ∈ Q ++ [r], ∀ k, k < 4 → ¬ S x.b k) (hl : ∀ j k, LQ w lk j → ¬ S (lk j) k) : Com w2 base I lk Q r :=
  ⟨h.tI.keep hc hI, h.rq.keep hc (hr r (by simp)), h.lq.keep hc (hl _ _ h.lq), fun x hx => by
    obtain ⟨h1, h2, h3, h4⟩ := h.old x hx
    exact ⟨h1.keep hc (hr x (by simp [hx])), h2.keep hc (hl _ _ h2), h2.ty.cell hc (hl _ _ h2) h3, h4⟩, h.up, h.nd, h.len, Nat.le_trans h.base hc.size⟩

theorem Com.tyQ (h : Com w base I lk Q r) {x : Req} (hx : x ∈ Q ++ [r]) : Ty w x.b 82 8 := by
  rcases List.mem_append.1 hx with hx | hx
  · exact (h.old x hx).1.ty
  · simp at hx; subst hx; exact h.rq.ty

theorem Com.pre (h : Com w base I lk Q r) (hs : L.Sublist Q) (hl : l ≤ 1) (hx : l = 1 → ∀ x ∈ L, x.m = 2) (hq : QS w base I l lk L v lim) : RPre w base I l lk L v lim r :=
  ⟨hq, hl, h.tI, h.rq, h.lq, fun x hm => by
    obtain ⟨h1, h2, h3, h4⟩ := h.old x (hs.subset hm)
    exact ⟨h1, h2, h3, fun e => hx e x hm, h4⟩, h.up.sublist hs, h.nd.sublist ((hs.append (List.Sublist.refl [r])).map Req.b), Nat.le_trans hs.length_le h.len, h.base⟩

/-- A round's frame lies within the push's. -/
theorem SPush.all (hs : L.Sublist Q) (hl : l ≤ 1) {n : Nat} {xs : List Value} (hrow : w.ownsRow base 54 1 v n xs) {b k : Nat} (h : SPush I r.b l L v b k) : SAll w base I Q r b k := by
  rcases h with (⟨e, h⟩ | ⟨e, h⟩ | ⟨⟨x, hx, e⟩, h⟩) | (⟨e, h⟩ | e)
  · exact .inl ⟨e, by omega, by omega⟩
  · exact .inr (.inl ⟨⟨r, by simp, e⟩, by omega⟩)
  · exact .inr (.inl ⟨⟨x, by simp [hs.subset hx], e⟩, by omega⟩)
  · exact .inl ⟨e, by omega, by omega⟩
  · exact .inr (.inr (row_ty hrow e))

theorem Com.sall (h : Com w base I lk Q r) (hc : CChg (SAll w base I Q r) w w2) : Com w2 base I lk Q r := by
  refine h.keep hc ⟨0, ?_⟩ ?_ ?_
  · rintro (⟨_, e⟩ | ⟨_, e⟩ | ⟨_, cur, e⟩)
    · omega
    · omega
    · obtain ⟨cs, h1, _⟩ := h.tI
      rw [e] at h1
      cases h1
  · rintro x hx k hk (⟨_, e⟩ | ⟨_, e⟩ | ⟨_, cur, e⟩)
    · omega
    · omega
    · obtain ⟨cs, h1, _⟩ := h.tyQ hx
      rw [e] at h1
      cases h1
  · rintro j k hj (⟨e, _⟩ | ⟨⟨x, hx, e⟩, _⟩ | ⟨_, cur, e⟩)
    · exact hj.ty.ne h.tI (by decide) e
    · exact hj.ty.ne (h.tyQ hx) (by decide) e
    · obtain ⟨cs, h1, _⟩ := hj.ty
      rw [e] at h1
      cases h1
end

end Go.Proofs.Ybulkadpy
