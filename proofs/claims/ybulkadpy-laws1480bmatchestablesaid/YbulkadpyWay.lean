/-
  conflictList, holdersInWay: the iterator's first half.
-/
import Derived.Test.YbulkadpyBlock
namespace Go.Proofs.Ybulkadpy
open Go.RowKit Go.Shelf

theorem conf_excl (w : World) : Calls Yba.prog 29 #[.int .u8 2] w fun e w' => e = .returned (.int .i64 0) ∧ w' = w := by
  go_enter Yba.func29, Yba.ntmps29
  go_wp2
  go_ret
  exact ⟨rfl, rfl⟩
theorem conf_shared (w : World) : Calls Yba.prog 29 #[.int .u8 1] w fun e w' => e = .returned (.int .i64 1) ∧ w' = w := by
  go_enter Yba.func29, Yba.ntmps29
  go_wp2
  go_ret
  exact ⟨rfl, rfl⟩

section
variable {P : Program} {w : World} {kt te : TypeId} {j : TypeInfo}
theorem run_neq_ptr (hk : P.underlying kt = some (.pointer te)) (hte : P.info? te = some j) (hsz : j.size ≠ 0) {a b : Addr} (ha : Pl w a.block) (hb : Pl w b.block) :
    (binOp .neq kt (.pointer (some a)) (.pointer (some b))).run P w = .ok (.bool (!decide (a = b))) w := by
  simp [binOp, run_equal_ptr hk hte hsz ha hb]
end

/-- What blockers finds at its start w0: the request q of locker who, of mode md, for the item I. -/
structure AskQ (w0 : World) (I HM : Nat) (lk aw : Nat → Nat) (es : Array MapEntry) (q who N : Nat) (md : Int) (ex : Option Nat) : Prop where
  tq : Ty w0 q 82 8
  q0 : w0.cell? ⟨q, 0, none⟩ = some (.pointer (some ⟨lk who, 0, none⟩))
  q1 : w0.cell? ⟨q, 1, none⟩ = some (.pointer (some ⟨I, 0, none⟩))
  q2 : w0.cell? ⟨q, 2, none⟩ = some (.int .u8 md)
  q3 : w0.cell? ⟨q, 3, none⟩ = some (.int .i64 (N + 1))
  i0 : w0.cell? ⟨I, 0, none⟩ = some (.map (some HM))
  i1 : w0.cell? ⟨I, 1, none⟩ = some (optp (ex.map lk))
  exN : ∀ e, ex = some e → e < N
  tw : Ty w0 (lk who) 48 7
  hld : Hld w0 HM es lk aw
  small : es.size ≤ 400
  keyN : ∀ x ∈ es.toList, ∀ i, x.key = lp (lk i) → i < N

/-- What a round hands on. -/
def RoundOk (w0 : World) (lk : Nat → Nat) (num : Nat → Int) (N L : Nat) (r : Loop) : Prop :=
  ∀ pre x W1, (x < N ∧ pre.length < 1000) → BI w0 num pre W1 ∧ W1.heap[L]? = some (.loop r) → ∀ m, YieldAt Fence.wide m Yba.prog L #[.pointer (some ⟨lk x, 0, none⟩)] W1 fun e W' => e = .returned (.bool true) ∧ (BI w0 num (pre ++ [x]) W' ∧ W'.heap[L]? = some (.loop r)) ∧ KeepT W1 W'

set_option maxRecDepth 100000 in
set_option maxHeartbeats 1000000 in
theorem hold_shared (w0 : World) (I HM : Nat) (lk aw : Nat → Nat) (es : Array MapEntry) (q who N : Nat) (ex : Option Nat) (num : Nat → Int) (L : Nat) (r : Loop) (n : Nat) (h : AskQ w0 I HM lk aw es q who N 1 ex) (hY : RoundOk w0 lk num N L r) (W : World) (hJ : BI w0 num [] W ∧ W.heap[L]? = some (.loop r)) :
    CallsIn Fence.wide n Yba.prog 28 #[.pointer (some ⟨q, 0, none⟩), .func (.yield L) #[] #[]] W fun e W' => e = .returned (.bool true) ∧ BI w0 num ex.toList W' ∧ W'.heap[L]? = some (.loop r) := by
  have k : ∀ {p : Addr} {v : Value}, w0.cell? p = some v → W.cell? p = some v := fun {p} {v} hv => (hJ.1.below.cell (p := p) (Lib.lt_of_cell hv)).trans hv
  have q1 := k h.q1
  have q2 := k h.q2
  have i1 := k h.i1
  refine callsIn_of_wp Yba.func28 rfl trivial ?_ rfl
  simp only [Yba.ntmps28, List.size_toArray, List.length_cons, List.length_nil, Nat.reduceAdd, Nat.reduceSub, Array.replicate_succ, Array.replicate_zero, List.push_toArray, List.append_toArray, List.nil_append, List.cons_append]
  cases ex with
  | none =>
    have i1' : W.cell? ⟨I, 1, none⟩ = some (.pointer none) := i1
    have HJ := hide hJ
    clear hJ i1 k
    gi_wp2
    refine ⟨fun _ h => (by cases h), ?_⟩
    gi_wp2
    go_ret
    exact ⟨rfl, HJ.out⟩
  | some e =>
    have i1' : W.cell? ⟨I, 1, none⟩ = some (.pointer (some ⟨lk e, 0, none⟩)) := i1
    obtain ⟨fn, tmps, assign, body, hy, hR⟩ := hY [] e W ⟨h.exN e rfl, by simp⟩ hJ (n - 1)
    have HR := hide hR
    clear hJ i1 k hR
    gi_wp2
    refine ⟨fun h => (by cases h), HR.out.mono ?_⟩
    rintro e2 W2 ⟨rfl, hJ2, _⟩
    gi_wp2
    go_ret
    exact ⟨rfl, hJ2⟩

end Go.Proofs.Ybulkadpy
