/-
  The lock queue: its two lists, and what a push leaves of them.
-/
import Derived.Test.YbulkadpyCell
namespace Go.Proofs.Ybulkadpy
open Go.RowKit
open Go.ChangeMaps (setBlock)

/-- A request that waits: its block, its locker's number, its mode. -/
structure Req where
  b : Nat
  u : Nat
  m : Int

def optp : Option Nat → Value
  | none => .pointer none
  | some b => .pointer (some ⟨b, 0, none⟩)

/-- List l of the queue holds L. -/
structure QS (w : World) (base I l : Nat) (lk : Nat → Nat) (L : List Req) (v : Value) (lim : Int) : Prop where
  first : w.cell? ⟨I, 4 + 2 * l, none⟩ = some (optp (L.head?.map Req.b))
  last : w.cell? ⟨I, 5 + 2 * l, none⟩ = some (optp (L.getLast?.map Req.b))
  rowv : w.cell? ⟨I, 8 + 2 * l, none⟩ = some v
  limv : w.cell? ⟨I, 8 + 2 * l + 1, none⟩ = some (.int .i64 lim)
  row : w.ownsRow base 54 1 v L.length ((L.map fun r => lk r.u).map lp)
  lims : lim = 0 ∧ L = [] ∨ 16 ≤ lim
  next : ∀ i r, L[i]? = some r → w.cell? ⟨r.b, 5 + 2 * l, none⟩ = some (optp (L[i + 1]?.map Req.b))

/-- A request's cells that stay. -/
structure RQ (w : World) (I : Nat) (lk : Nat → Nat) (r : Req) : Prop where
  ty : Ty w r.b 82 8
  c0 : w.cell? ⟨r.b, 0, none⟩ = some (lp (lk r.u))
  c1 : w.cell? ⟨r.b, 1, none⟩ = some (lp I)
  c2 : w.cell? ⟨r.b, 2, none⟩ = some (.int .u8 r.m)
  c3 : w.cell? ⟨r.b, 3, none⟩ = some (.int .i64 (r.u + 1))
  mode : r.m = 1 ∨ r.m = 2

/-- A locker's cells that stay. -/
structure LQ (w : World) (lk : Nat → Nat) (j : Nat) : Prop where
  ty : Ty w (lk j) 48 7
  c1 : w.cell? ⟨lk j, 1, none⟩ = some (.int .i64 j)

theorem RQ.keep {S : Nat → Nat → Prop} {w w' : World} {I : Nat} {lk : Nat → Nat} {r : Req} (h : RQ w I lk r) (hc : CChg S w w') (hs : ∀ k, k < 4 → ¬ S r.b k) : RQ w' I lk r :=
  ⟨h.ty.keep hc ⟨0, hs 0 (by omega)⟩, h.ty.cell hc (hs 0 (by omega)) h.c0, h.ty.cell hc (hs 1 (by omega)) h.c1, h.ty.cell hc (hs 2 (by omega)) h.c2, h.ty.cell hc (hs 3 (by omega)) h.c3, h.mode⟩
theorem LQ.keep {S : Nat → Nat → Prop} {w w' : World} {lk : Nat → Nat} {j : Nat} (h : LQ w lk j) (hc : CChg S w w') (hs : ¬ S (lk j) 1) : LQ w' lk j := ⟨h.ty.keep hc ⟨1, hs⟩, h.ty.cell hc hs h.c1⟩
theorem LQ.lk {w : World} {lk : Nat → Nat} {j : Nat} (h : LQ w lk j) : Lk w (lk j) j := by
  obtain ⟨⟨cs, h1, _⟩, h2⟩ := h
  exact ⟨cs, h1, of_cell h1 h2⟩

/-- What laying the links on list l turns. -/
def SLink (I q l : Nat) (L : List Req) (b k : Nat) : Prop :=
  (b = I ∧ (k = 4 + 2 * l ∨ k = 5 + 2 * l)) ∨ (b = q ∧ (k = 4 + 2 * l ∨ k = 5 + 2 * l)) ∨ ((∃ x ∈ L, b = x.b) ∧ k = 5 + 2 * l)
/-- What a push on list l turns. -/
def SPush (I q l : Nat) (L : List Req) (v : Value) (b k : Nat) : Prop := SLink I q l L b k ∨ SAdd I (8 + 2 * l) v b k

/-- The links laid. -/
def linkW (w : World) (I q l : Nat) (last : Option Nat) : World :=
  match last with
  | none => (((w.setCell ⟨q, 4 + 2 * l, none⟩ (.pointer none)).setCell ⟨q, 5 + 2 * l, none⟩ (.pointer none)).setCell ⟨I, 4 + 2 * l, none⟩ (.pointer (some ⟨q, 0, none⟩))).setCell ⟨I, 5 + 2 * l, none⟩ (.pointer (some ⟨q, 0, none⟩))
  | some b => (((w.setCell ⟨q, 4 + 2 * l, none⟩ (.pointer (some ⟨b, 0, none⟩))).setCell ⟨q, 5 + 2 * l, none⟩ (.pointer none)).setCell ⟨b, 5 + 2 * l, none⟩ (.pointer (some ⟨q, 0, none⟩))).setCell ⟨I, 5 + 2 * l, none⟩ (.pointer (some ⟨q, 0, none⟩))

theorem cell_set_ne {w : World} {b o c k : Nat} (v : Value) (h : ¬ (b = c ∧ o = k)) : (w.setCell ⟨b, o, none⟩ v).cell? ⟨c, k, none⟩ = w.cell? ⟨c, k, none⟩ :=
  World.cell?_setCell_other _ _ _ _ (fun e => h (by cases e; exact ⟨rfl, rfl⟩))

theorem cell_set_same {w : World} {b o : Nat} (v : Value) {x : Value} (h : w.cell? ⟨b, o, none⟩ = some x) : (w.setCell ⟨b, o, none⟩ v).cell? ⟨b, o, none⟩ = some v :=
  World.cell?_setCell_same' _ _ _ (by rw [h]; rfl)

/-- Behind the links: list l holds L and r, but for the heap of ages. -/
structure Linked (w W : World) (I l : Nat) (L : List Req) (r : Req) : Prop where
  cc : CChg (SLink I r.b l L) w W
  keep8 : ∀ k, 8 ≤ k → W.cell? ⟨I, k, none⟩ = w.cell? ⟨I, k, none⟩
  first : W.cell? ⟨I, 4 + 2 * l, none⟩ = some (optp ((L ++ [r]).head?.map Req.b))
  last : W.cell? ⟨I, 5 + 2 * l, none⟩ = some (optp ((L ++ [r]).getLast?.map Req.b))
  next : ∀ i x, (L ++ [r])[i]? = some x → W.cell? ⟨x.b, 5 + 2 * l, none⟩ = some (optp ((L ++ [r])[i + 1]?.map Req.b))

theorem linked_of {w : World} {base I l : Nat} {lk : Nat → Nat} {L : List Req} {v : Value} {lim : Int} {r : Req} (h : QS w base I l lk L v lim) (hl : l ≤ 1) (tI : Ty w I 68 14) (tr : Ty w r.b 82 8) (tL : ∀ x ∈ L, Ty w x.b 82 8) (nd : ((L ++ [r]).map Req.b).Nodup) :
    Linked w (linkW w I r.b l (L.getLast?.map Req.b)) I l L r := by
  have hrI : r.b ≠ I := tr.ne tI (by decide)
  obtain ⟨x4, hx4⟩ := tr.some (4 + 2 * l) (by omega)
  obtain ⟨x5, hx5⟩ := tr.some (5 + 2 * l) (by omega)
  rcases List.eq_nil_or_concat L with rfl | ⟨L', y, rfl⟩
  · show Linked w ((((w.setCell ⟨r.b, 4 + 2 * l, none⟩ (.pointer none)).setCell ⟨r.b, 5 + 2 * l, none⟩ (.pointer none)).setCell ⟨I, 4 + 2 * l, none⟩ (.pointer (some ⟨r.b, 0, none⟩))).setCell ⟨I, 5 + 2 * l, none⟩ (.pointer (some ⟨r.b, 0, none⟩))) I l [] r
    refine ⟨?_, ?_, ?_, ?_, ?_⟩
    · exact ((((CChg.refl _ w).setCell r.b (4 + 2 * l) (.inr (.inl ⟨rfl, .inl rfl⟩)) _).setCell r.b (5 + 2 * l) (.inr (.inl ⟨rfl, .inr rfl⟩)) _).setCell I (4 + 2 * l) (.inl ⟨rfl, .inl rfl⟩) _).setCell I (5 + 2 * l) (.inl ⟨rfl, .inr rfl⟩) _
    · intro k hk
      rw [cell_set_ne _ (by omega), cell_set_ne _ (by omega), cell_set_ne _ (by omega), cell_set_ne _ (by omega)]
    · rw [cell_set_ne _ (by omega)]
      refine cell_set_same (x := optp none) _ ?_
      rw [cell_set_ne _ (by omega), cell_set_ne _ (by omega)]
      exact h.first
    · refine cell_set_same (x := optp none) _ ?_
      rw [cell_set_ne _ (by omega), cell_set_ne _ (by omega), cell_set_ne _ (by omega)]
      exact h.last
    · intro i x hx
      have hi : i = 0 := by
        have := (List.getElem?_eq_some_iff.1 hx).1
        simp at this
        omega
      subst hi
      simp at hx
      subst hx
      rw [cell_set_ne _ (by omega), cell_set_ne _ (by omega)]
      refine cell_set_same (x := x5) _ ?_
      rw [cell_set_ne _ (by omega)]
      exact hx5
  · have hyI : y.b ≠ I := (tL y (by simp)).ne tI (by decide)
    have nd1 : ((L'.map Req.b ++ [y.b]) ++ [r.b]).Nodup := by
      rw [List.concat_eq_append, List.map_append, List.map_append] at nd
      exact nd
    obtain ⟨nd2, _, nd3⟩ := List.nodup_append.1 nd1
    obtain ⟨_, _, nd4⟩ := List.nodup_append.1 nd2
    have hry : r.b ≠ y.b := fun e => nd3 y.b (by simp) r.b (by simp) e.symm
    have hyL : ∀ x ∈ L', x.b ≠ y.b := fun x hx e => nd4 x.b (List.mem_map.2 ⟨x, hx, rfl⟩) y.b (by simp) e
    have hrL : ∀ x ∈ L', x.b ≠ r.b := fun x hx e => nd3 x.b (List.mem_append.2 (.inl (List.mem_map.2 ⟨x, hx, rfl⟩))) r.b (by simp) e
    rw [show (L'.concat y).getLast?.map Req.b = some y.b by simp]
    show Linked w ((((w.setCell ⟨r.b, 4 + 2 * l, none⟩ (.pointer (some ⟨y.b, 0, none⟩))).setCell ⟨r.b, 5 + 2 * l, none⟩ (.pointer none)).setCell ⟨y.b, 5 + 2 * l, none⟩ (.pointer (some ⟨r.b, 0, none⟩))).setCell ⟨I, 5 + 2 * l, none⟩ (.pointer (some ⟨r.b, 0, none⟩))) I l (L'.concat y) r
    refine ⟨?_, ?_, ?_, ?_, ?_⟩
    · exact ((((CChg.refl _ w).setCell r.b (4 + 2 * l) (.inr (.inl ⟨rfl, .inl rfl⟩)) _).setCell r.b (5 + 2 * l) (.inr (.inl ⟨rfl, .inr rfl⟩)) _).setCell y.b (5 + 2 * l) (.inr (.inr ⟨⟨y, by simp, rfl⟩, rfl⟩)) _).setCell I (5 + 2 * l) (.inl ⟨rfl, .inr rfl⟩) _
    · intro k hk
      rw [cell_set_ne _ (by omega), cell_set_ne _ (by omega), cell_set_ne _ (by omega), cell_set_ne _ (by omega)]
    · rw [cell_set_ne _ (by omega), cell_set_ne _ (by omega), cell_set_ne _ (by omega), cell_set_ne _ (by omega), h.first]
      cases L' <;> simp
    · have : ((L'.concat y ++ [r]).getLast?.map Req.b) = some r.b := by simp
      rw [this]
      refine cell_set_same _ (x := optp ((L'.concat y).getLast?.map Req.b)) ?_
      rw [cell_set_ne _ (by omega), cell_set_ne _ (by omega), cell_set_ne _ (by omega)]
      exact h.last
    · intro i x hx
      rw [List.concat_eq_append] at hx h ⊢
      rcases Nat.lt_trichotomy i L'.length with hi | hi | hi
      · have hx' : L'[i]? = some x := by
          rw [List.append_assoc, List.getElem?_append_left hi] at hx
          exact hx
        have hm : x ∈ L' := List.mem_iff_getElem?.2 ⟨i, hx'⟩
        have h1 := hyL x hm
        have h2 := hrL x hm
        have h3 : x.b ≠ I := (tL x (by simp [hm])).ne tI (by decide)
        rw [cell_set_ne _ (by omega), cell_set_ne _ (by omega), cell_set_ne _ (by omega), cell_set_ne _ (by omega), h.next i x (by rw [List.getElem?_append_left hi]; exact hx')]
        congr 3
        rw [List.getElem?_append_left (l₂ := [r]) (by simp; omega)]
      · subst hi
        have hxy : y = x := by simpa using hx
        subst hxy
        rw [cell_set_ne _ (by omega)]
        have e1 : ((L' ++ [y] ++ [r])[L'.length + 1]?.map Req.b) = some r.b := by simp
        rw [e1]
        obtain ⟨z, hz⟩ := (tL y (by simp)).some (5 + 2 * l) (by omega)
        refine cell_set_same (x := z) _ ?_
        rw [cell_set_ne _ (by omega), cell_set_ne _ (by omega)]
        exact hz
      · have hlt := (List.getElem?_eq_some_iff.1 hx).1
        simp at hlt
        have hi2 : i = L'.length + 1 := by omega
        subst hi2
        have hxr : r = x := by simpa using hx
        subst hxr
        have e1 : ((L' ++ [y] ++ [r])[L'.length + 1 + 1]?.map Req.b) = none := by simp
        rw [e1, cell_set_ne _ (by omega), cell_set_ne _ (by omega)]
        refine cell_set_same (x := x5) _ ?_
        rw [cell_set_ne _ (by omega)]
        exact hx5

end Go.Proofs.Ybulkadpy
