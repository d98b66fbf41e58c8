/-
  What a call may have turned, to the cell; the lock queue's state.
-/
import Derived.Test.YbulkadpyAdd3
namespace Go.Proofs.Ybulkadpy
open Go.RowKit
open Go.ChangeMaps (setBlock)

/-- Every cell but those in S is as it was. -/
structure CChg (S : Nat → Nat → Prop) (w w' : World) : Prop where
  os : w'.os = w.os
  tape : w'.tape = w.tape
  output : w'.output = w.output
  size : w.heap.size ≤ w'.heap.size
  block : ∀ b, b < w.heap.size → (∀ k, ¬ S b k) → w'.heap[b]? = w.heap[b]?
  cells : ∀ b cs ty, w.heap[b]? = some (.cells cs ty (0, 0)) → (∃ k, ¬ S b k) → ∃ cs', w'.heap[b]? = some (.cells cs' ty (0, 0)) ∧ cs'.size = cs.size ∧ ∀ k, ¬ S b k → cs'[k]? = cs[k]?

theorem CChg.refl (S : Nat → Nat → Prop) (w : World) : CChg S w w := ⟨rfl, rfl, rfl, Nat.le_refl _, fun _ _ _ => rfl, fun _ cs _ h _ => ⟨cs, h, rfl, fun _ _ => rfl⟩⟩

theorem CChg.trans {S : Nat → Nat → Prop} {a b c : World} (h : CChg S a b) (k : CChg S b c) : CChg S a c :=
  ⟨k.os.trans h.os, k.tape.trans h.tape, k.output.trans h.output, Nat.le_trans h.size k.size, fun i hi hs => (k.block i (Nat.lt_of_lt_of_le hi h.size) hs).trans (h.block i hi hs), fun i cs ty hi hs => by
    obtain ⟨c1, h1, h2, h3⟩ := h.cells i cs ty hi hs
    obtain ⟨c2, k1, k2, k3⟩ := k.cells i c1 ty h1 hs
    exact ⟨c2, k1, k2.trans h2, fun j hj => (k3 j hj).trans (h3 j hj)⟩⟩

theorem CChg.mono {S T : Nat → Nat → Prop} {w w' : World} (h : CChg S w w') (hst : ∀ b k, b < w.heap.size → S b k → T b k) : CChg T w w' :=
  ⟨h.os, h.tape, h.output, h.size, fun b hb ht => h.block b hb (fun k hs => ht k (hst b k hb hs)), fun b cs ty hb ⟨k, hk⟩ => by
    have hlt := heap_lt hb
    obtain ⟨c1, h1, h2, h3⟩ := h.cells b cs ty hb ⟨k, fun hs => hk (hst b k hlt hs)⟩
    exact ⟨c1, h1, h2, fun j hj => h3 j (fun hs => hj (hst b j hlt hs))⟩⟩

theorem Chg.cc {S : Nat → Prop} {w w' : World} (h : Chg S w w') : CChg (fun b _ => S b) w w' :=
  ⟨h.os, h.tape, h.output, h.size, fun b hb hs => h.block b hb (hs 0), fun _ cs _ hb ⟨_, hk⟩ => ⟨cs, h.keep hb hk, rfl, fun _ _ => rfl⟩⟩

theorem CChg.chg {S : Nat → Nat → Prop} {w w' : World} (h : CChg S w w') : Chg (fun b => ∃ k, S b k) w w' :=
  ⟨h.os, h.tape, h.output, h.size, fun b hb hs => h.block b hb (fun k hk => hs ⟨k, hk⟩)⟩

theorem CChg.drew {S : Nat → Nat → Prop} {a w : World} (h : CChg S a w) : CChg S a w.drew := ⟨h.os, h.tape, h.output, h.size, h.block, h.cells⟩
theorem CChg.drewN {S : Nat → Nat → Prop} {a w : World} (h : CChg S a w) (n : Nat) : CChg S a (w.drewN n) := ⟨h.os, h.tape, h.output, h.size, h.block, h.cells⟩

theorem CChg.setCell {S : Nat → Nat → Prop} {a w : World} (h : CChg S a w) (b o : Nat) (hp : S b o) (u : Value) : CChg S a (w.setCell ⟨b, o, none⟩ u) := by
  refine h.trans ?_
  refine ⟨rfl, rfl, rfl, by simp [World.setCell], fun k hk hs => Below.heap_setCell w ⟨b, o, none⟩ u k (fun e => hs o (by rw [e]; exact hp)), fun k cs ty hk _ => ?_⟩
  by_cases hb : k = b
  · subst hb
    refine ⟨_, heap_setCell_same hk u, by simp, fun j hj => Array.getElem?_setIfInBounds_ne (fun (e : o = j) => hj (by rw [← e]; exact hp))⟩
  · exact ⟨cs, by rw [Below.heap_setCell w ⟨b, o, none⟩ u k hb]; exact hk, rfl, fun _ _ => rfl⟩

theorem CChg.alloc {S : Nat → Nat → Prop} {a w : World} (h : CChg S a w) (o : Obj) : CChg S a (w.alloc o) :=
  h.trans (((Chg.refl (fun _ => False) w).alloc o).cc.mono (fun _ _ _ h => h.elim))

/-- A block of n cells of the type ty. -/
def Ty (w : World) (b : Nat) (ty : TypeId) (n : Nat) : Prop := ∃ cs, w.heap[b]? = some (.cells cs ty (0, 0)) ∧ cs.size = n

theorem Ty.keep {S : Nat → Nat → Prop} {w w' : World} {b : Nat} {ty : TypeId} {n : Nat} (h : Ty w b ty n) (hc : CChg S w w') (hs : ∃ k, ¬ S b k) : Ty w' b ty n := by
  obtain ⟨cs, h1, h2⟩ := h
  obtain ⟨c1, k1, k2, _⟩ := hc.cells b cs ty h1 hs
  exact ⟨c1, k1, k2.trans h2⟩

theorem Ty.frozen {w : World} {b : Nat} {ty : TypeId} {n : Nat} (h : Ty w b ty n) (o : Nat) : w.frozen? ⟨b, o, none⟩ = false := by
  obtain ⟨cs, h1, _⟩ := h
  exact frozen_of h1

theorem Ty.some {w : World} {b : Nat} {ty : TypeId} {n : Nat} (h : Ty w b ty n) (o : Nat) (ho : o < n) : ∃ v, w.cell? ⟨b, o, none⟩ = .some v := by
  obtain ⟨cs, h1, h2⟩ := h
  exact ⟨cs[o]'(by omega), cell_of h1 (Array.getElem?_eq_getElem (by omega))⟩

theorem Ty.pl {w : World} {b : Nat} {ty : TypeId} {n : Nat} (h : Ty w b ty n) : Pl w b := by
  obtain ⟨cs, h1, _⟩ := h
  exact ⟨cs, ty, h1⟩

theorem Ty.lt {w : World} {b : Nat} {ty : TypeId} {n : Nat} (h : Ty w b ty n) : b < w.heap.size := by
  obtain ⟨cs, h1, _⟩ := h
  exact heap_lt h1

theorem Ty.ne {w : World} {a b : Nat} {t s : TypeId} {n m : Nat} (h : Ty w a t n) (k : Ty w b s m) (hts : t ≠ s) : a ≠ b := fun e => by
  obtain ⟨c1, h1, _⟩ := h
  obtain ⟨c2, h2, _⟩ := k
  rw [e, h2] at h1
  cases h1
  exact hts rfl

theorem of_cell {w : World} {b o : Nat} {cs : Array Value} {ty : TypeId} {fr : Nat × Nat} {v : Value} (h : w.heap[b]? = some (.cells cs ty fr)) (hv : w.cell? ⟨b, o, none⟩ = some v) : cs[o]? = some v := by
  simpa [World.cell?, h] using hv

theorem Ty.cell {S : Nat → Nat → Prop} {w w' : World} {b : Nat} {ty : TypeId} {n : Nat} (h : Ty w b ty n) (hc : CChg S w w') {k : Nat} (hk : ¬ S b k) {v : Value} (hv : w.cell? ⟨b, k, none⟩ = .some v) : w'.cell? ⟨b, k, none⟩ = .some v := by
  obtain ⟨cs, h1, h2⟩ := h
  obtain ⟨c1, k1, k2, k3⟩ := hc.cells b cs ty h1 ⟨k, hk⟩
  exact cell_of k1 ((k3 k hk).trans (of_cell h1 hv))

/-- A row's block is no block of another type. -/
theorem Ty.neRow {w : World} {u : Nat} {ty : TypeId} {n : Nat} (h : Ty w u ty n) {base : Nat} {e : TypeId} {v : Value} {m : Nat} {xs : List Value} (hr : w.ownsRow base e 1 v m xs) (hty : ty ≠ e) : v.ownBlock ≠ .some u := fun e2 => by
  obtain ⟨_, ⟨rfl, _⟩ | ⟨g, cap, cur, rfl, _, hg, _⟩⟩ := hr
  · cases e2
  · have e3 : g = u := by simpa [Value.ownBlock] using e2
    obtain ⟨cs, h1, _⟩ := h
    rw [← e3, hg] at h1
    cases h1
    exact hty rfl

theorem ownsRow_cc {S : Nat → Nat → Prop} {w w' : World} {base : Nat} {e : TypeId} {k : Nat} {v : Value} {n : Nat} {xs : List Value} (h : w.ownsRow base e k v n xs) (hc : CChg S w w') (hs : ∀ b, v.ownBlock = some b → ∀ j, ¬ S b j) : w'.ownsRow base e k v n xs :=
  ownsRow_chg h hc.chg (fun b hb ⟨j, hj⟩ => hs b hb j hj)

theorem Below.of_cc {S : Nat → Nat → Prop} {w w' : World} {B : Nat} (h : CChg S w w') (hB : B ≤ w.heap.size) (hs : ∀ b k, b < B → ¬ S b k) : Below B w w' := h.chg.below hB (fun b hb ⟨k, hk⟩ => hs b k hb hk)

/-- What add turns. -/
def SAdd (I o : Nat) (v : Value) (b k : Nat) : Prop := (b = I ∧ (k = o ∨ k = o + 1)) ∨ v.ownBlock = some b

theorem AddPost.cc {w : World} {base I o : Nat} {c : Array Value} {v : Value} {us : List Nat} {t : Nat} {w' : World} (h : AddPost w base I o c v us t w') (hI : w.heap[I]? = some (.cells c 68 (0, 0))) (hne : v.ownBlock ≠ some I) (ho : o + 1 < c.size) :
    CChg (SAdd I o v) w w' ∧ ∃ (g cap : Nat) (lim : Int), 16 ≤ lim ∧ w'.cell? ⟨I, o, none⟩ = some (.slice (some ⟨g, 0, none⟩) (us.length + 1) cap) ∧ w'.cell? ⟨I, o + 1, none⟩ = some (.int .i64 lim) ∧
      w'.ownsRow base 54 1 (.slice (some ⟨g, 0, none⟩) (us.length + 1) cap) (us.length + 1) ((us ++ [t]).map lp) ∧ (v.ownBlock = some g ∨ w.heap.size ≤ g) := by
  obtain ⟨g, cap, lim, h1, h2, h3, h4, h5⟩ := h
  refine ⟨⟨h5.os, h5.tape, h5.output, h5.size, fun b hb hs => h5.block b hb ?_, fun b cs ty hb hs => ?_⟩, g, cap, lim, h1, cell_of h2 ?_, cell_of h2 ?_, h3, h4⟩
  · rintro (e | e)
    · exact hs o (.inl ⟨e, .inl rfl⟩)
    · exact hs 0 (.inr e)
  · obtain ⟨k0, hk0⟩ := hs
    by_cases hbI : b = I
    · subst hbI
      rw [hI] at hb
      cases hb
      refine ⟨_, h2, by simp, fun k hk => ?_⟩
      rw [Array.getElem?_setIfInBounds_ne (fun e => hk (.inl ⟨rfl, .inl e.symm⟩)), Array.getElem?_setIfInBounds_ne (fun e => hk (.inl ⟨rfl, .inr e.symm⟩))]
    · exact ⟨cs, h5.keep hb (by rintro (e | e); exact hbI e; exact hk0 (.inr e)), rfl, fun _ _ => rfl⟩
  · rw [Array.getElem?_setIfInBounds_self_of_lt (by simp; omega)]
  · rw [Array.getElem?_setIfInBounds_ne (by omega), Array.getElem?_setIfInBounds_self_of_lt (by omega)]

end Go.Proofs.Ybulkadpy
