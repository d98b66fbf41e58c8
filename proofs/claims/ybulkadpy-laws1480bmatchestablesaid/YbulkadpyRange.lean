/-
  A loop over a bound method value that is an iterator, whose body never leaves the loop: the law that blockers wants.
-/
import Derived.RangeFuncNested
import Derived.RangeFuncCalls
import Derived.RangeFuncLeaves
import Derived.WalkKit
import Derived.OwnWalkIn
import Derived.TacticsInMore
import Derived.LoopNIn
import Derived.LoopIn
import Derived.Test.YbulkadpyWait3
namespace Go.Proofs.Ybulkadpy
open Go.RowKit

/-- What a round of the loop in blockers leaves alone: maps, their walks, lockers, items, requests. -/
def Stay : Obj → Prop
  | .map _ _ => True
  | .mapIter _ _ _ _ => True
  | .cells _ t fr => fr = (0, 0) ∧ (t = 48 ∨ t = 68 ∨ t = 82)
  | _ => False

structure KeepT (W W' : World) : Prop where
  size : W.heap.size ≤ W'.heap.size
  same : ∀ (b : Nat) (o : Obj), W.heap[b]? = some o → Stay o → W'.heap[b]? = some o

theorem KeepT.refl (W : World) : KeepT W W := ⟨Nat.le_refl _, fun _ _ h _ => h⟩
theorem KeepT.trans {A B C : World} (h : KeepT A B) (k : KeepT B C) : KeepT A C := ⟨Nat.le_trans h.size k.size, fun b o hb ho => k.same b o (h.same b o hb ho) ho⟩
theorem KeepT.put {W : World} {l : Nat} {r : Loop} (h : W.heap[l]? = some (.loop r)) (o : Obj) : KeepT W (W.putObj l o) :=
  ⟨by simp [World.putObj], fun b o' hb ho => by
    by_cases e : b = l
    · subst e; rw [h] at hb; cases hb; exact ho.elim
    · rw [World.putObj_heap_other e]; exact hb⟩

/-- What a round may come to. -/
def roundEnd (L : Nat) (r : Loop) (I : List Nat → World → Prop) (xs : List Nat) (W : World) : Exit → Act → World → Prop
  | .normal, _, W' => I xs W' ∧ W'.heap[L]? = some (.loop r) ∧ KeepT W W'
  | _, _, _ => False

section
variable {P : Program} {n : Nat}

theorem range_bound {g : Operand} {ps : Array Tmp} {assign body : Code} {Q : Exit → Act → World → Prop} {a : Act} {w : World} (gf : Nat) (rb : Value) (hg : a.eval g = .func (.func gf) #[rb] #[]) (eg : ∀ args w, (callFunc gf args).run P w = .ok (.enter gf args) w)
    (enc : Nat → Value) (ok : List Nat → Nat → Prop) (hps : ps.size = 1) (I : List Nat → World → Prop) (S : List Nat → Prop)
    (hput : ∀ pre W r o, I pre W → W.heap[w.heap.size + 1]? = some (.loop r) → I pre (W.putObj (w.heap.size + 1) (.loop o)))
    (h0 : ∀ r, I [] ((w.alloc (.deferred (some []))).alloc (.loop r))) (a₁ : Nat → Act)
    (hassign : ∀ (x : Nat) (W : World) (K : Act → World → Prop) (m : Nat), K (a₁ x) W →
      assign.wpIn (Fence.wide.inRound (w.heap.size + 1)) m P (Exit.then K (fun _ _ _ => False)) { tmps := (ps.zip #[enc x]).foldl (fun t (p, v) => t.setIfInBounds p v) a.tmps, defers := [] } W)
    (hbody : ∀ (pre : List Nat) (x : Nat) (W : World) (r : Loop) (m : Nat), ok pre x → I pre W → W.heap[w.heap.size + 1]? = some (.loop r) → body.wpIn (Fence.wide.inRound (w.heap.size + 1)) m P (roundEnd (w.heap.size + 1) r I (pre ++ [x]) W) (a₁ x) W)
    (hiter : ∀ (r : Loop) (W : World), I [] W ∧ W.heap[w.heap.size + 1]? = some (.loop r) →
      (∀ pre x W1, ok pre x → I pre W1 ∧ W1.heap[w.heap.size + 1]? = some (.loop r) → ∀ m, YieldAt Fence.wide m P (w.heap.size + 1) #[enc x] W1 fun e W' => e = .returned (.bool true) ∧ (I (pre ++ [x]) W' ∧ W'.heap[w.heap.size + 1]? = some (.loop r)) ∧ KeepT W1 W') →
      CallsIn Fence.wide (n - 1) P gf #[rb, .func (.yield (w.heap.size + 1)) #[] #[]] W fun e W' => (∃ v, e = .returned v) ∧ ∃ xs, S xs ∧ I xs W' ∧ W'.heap[w.heap.size + 1]? = some (.loop r))
    (hdone : ∀ (xs : List Nat) (W : World), S xs → I xs W → Q .normal { a with defers := { target := .collected w.heap.size, args := #[] } :: a.defers } W) :
    (Code.rangeFunc g ps assign body).wpIn Fence.wide n P Q a w := by
  refine wpIn_rangeFunc ?_
  intro fn hfn
  obtain ⟨rec, hrec⟩ : ∃ rec : LoopState → Option Code → Loop, rec = fun st pe => { state := st, pending := pe, fn, tmps := a.tmps, params := ps, assign, body, defers := w.heap.size } := ⟨_, rfl⟩
  obtain ⟨W1, hW1⟩ : ∃ W1, (w.alloc (.deferred (some []))).alloc (.loop (rec .ready none)) = W1 := ⟨_, rfl⟩
  have hL1 : W1.heap[w.heap.size + 1]? = some (.loop (rec .ready none)) := by
    rw [← hW1]
    have := World.alloc_heap_new (w.alloc (.deferred (some []))) (.loop (rec .ready none))
    rwa [World.size_alloc] at this
  refine ⟨w.heap.size + 1, [{ target := .collected w.heap.size, args := #[] }], W1, { target := .fn (.func gf) #[], args := #[rb, .func (.yield (w.heap.size + 1)) #[] #[]] }, W1, gf,
    #[rb, .func (.yield (w.heap.size + 1)) #[] #[]], W1, ?_, ?_, ?_, ?_, ?_, ?_⟩
  · rw [← hW1, hrec]
    exact run_enterLoop_outer _ _ _ _ _
  · simp only [resolve, hg]
    simp [go_sem]
  · intro f' _
    trivial
  · simp [invoke, go_sem, eg]
  · intro h
    simp [Fence.wide] at h
  · refine (hiter (rec .ready none) W1 ⟨by rw [← hW1]; exact h0 _, hL1⟩ ?_).mono ?_
    · rintro pre x W hx ⟨hi, hl⟩ m
      have hlt : w.heap.size + 1 < W.heap.size := (Array.getElem?_eq_some_iff.1 hl).1
      have hy := run_yield (P := P) (args := #[enc x]) hl (by rw [hrec]; exact hps.symm)
      rw [hrec] at hy
      refine ⟨fn, _, assign, body, hy, roundIn_of_wpIn hfn (hassign x W _ m ⟨_, run_beginRound hl (by rw [hrec]), ?_⟩)⟩
      have hl2 : (W.putObj (w.heap.size + 1) (.loop { rec .ready none with state := .busy })).heap[w.heap.size + 1]? = some (.loop { rec .ready none with state := .busy }) := World.putObj_heap_same hlt
      refine wpIn_mono (hbody pre x _ _ m hx (hput _ _ _ _ hi hl) hl2) ?_
      rintro e a3 W3 hp
      cases e with
      | normal =>
        obtain ⟨hi3, hl3, hk3⟩ := hp
        have hr := run_endRound (P := P) none hl3
        rw [hrec] at hr hl3 ⊢
        refine ⟨_, _, hr, rfl, ⟨hput _ _ _ _ hi3 hl3, World.putObj_heap_same (Array.getElem?_eq_some_iff.1 hl3).1⟩, ?_⟩
        rw [hrec] at hl hk3
        exact ((KeepT.put hl _).trans hk3).trans (KeepT.put hl3 _)
      | ret => exact hp.elim
      | exit _ => exact hp.elim
      | goto _ => exact hp.elim
      | panic _ => exact hp.elim
      | outgrown => exact hp.elim
    · rintro e W2 ⟨⟨v, rfl⟩, xs, hS, hi, hl⟩
      have he := run_endLoop (P := P) hl (by rw [hrec]; simp)
      exact ⟨none, _, by rw [hrec] at he; exact he, hdone xs _ hS (hput _ _ _ _ hi hl)⟩
end

end Go.Proofs.Ybulkadpy
