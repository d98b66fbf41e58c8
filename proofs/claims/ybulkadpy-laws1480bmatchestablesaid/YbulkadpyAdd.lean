/-
  slices.SortFunc, container/heap.Push, (*ageHeap).add over lockers in the order of their times.
-/
import Derived.Test.YbulkadpyHeap2
import Derived.Test.YbulkadpyShelf
namespace Go.Proofs.Ybulkadpy
open Go.RowKit
open Go.ChangeMaps (setBlock)

/-- The block u is a locker whose time is t. -/
def Lk (w : World) (u : Nat) (t : Int) : Prop := ∃ cs, w.heap[u]? = some (.cells cs 48 (0, 0)) ∧ cs[1]? = some (.int .i64 t)

/-- The lockers us, in the order of their times. -/
structure Tms (w : World) (ts : Nat → Int) (us : List Nat) : Prop where
  lk : ∀ u ∈ us, Lk w u (ts u)
  up : us.Pairwise (fun a b => ts a < ts b)

theorem Lk.chg {S : Nat → Prop} {w w' : World} {u : Nat} {t : Int} (h : Lk w u t) (hc : Chg S w w') (hs : ¬ S u) : Lk w' u t := by
  obtain ⟨cs, h1, h2⟩ := h
  exact ⟨cs, hc.keep h1 hs, h2⟩

theorem Lk.cell {w : World} {u : Nat} {t : Int} (h : Lk w u t) : w.cell? ⟨u, 1, none⟩ = some (.int .i64 t) := by
  obtain ⟨cs, h1, h2⟩ := h
  exact cell_of h1 h2

theorem Tms.chg {S : Nat → Prop} {w w' : World} {ts : Nat → Int} {us : List Nat} (h : Tms w ts us) (hc : Chg S w w') (hs : ∀ u ∈ us, ¬ S u) : Tms w' ts us := ⟨fun u hu => (h.lk u hu).chg hc (hs u hu), h.up⟩

theorem Lk.neCells {w : World} {u : Nat} {t : Int} (h : Lk w u t) {b : Nat} {c : Array Value} {ty : TypeId} (hb : w.heap[b]? = some (.cells c ty (0, 0))) (hty : ty ≠ 48) : u ≠ b := fun e => by
  obtain ⟨cs, h1, _⟩ := h
  rw [e, hb] at h1
  cases h1
  exact hty rfl

/-- A locker is no row's block. -/
theorem Lk.neRow {w : World} {u : Nat} {t : Int} (h : Lk w u t) {base : Nat} {v : Value} {n : Nat} {xs : List Value} (hr : w.ownsRow base 54 1 v n xs) : v.ownBlock ≠ some u := fun e => by
  obtain ⟨_, ⟨rfl, _⟩ | ⟨g, cap, cur, rfl, _, hg, _⟩⟩ := hr
  · cases e
  · have e2 : g = u := by simpa [Value.ownBlock] using e
    exact h.neCells hg (by decide) e2.symm

theorem rowAt_of {w : World} {base : Nat} {ao : Option Addr} {n cap : Nat} {ts : Nat → Int} {us : List Nat} (hr : w.ownsRow base 54 1 (.slice ao n cap) us.length (us.map lp)) (hT : Tms w ts us) :
    n = us.length ∧ ∃ R, RowAt w ao R (fun i => us.getD i 0) (fun i => ts (us.getD i 0)) us.length cap := by
  have hup : ∀ i j, i < j → j < us.length → ts (us.getD i 0) < ts (us.getD j 0) := fun i j hij hj => by
    have := List.pairwise_iff_getElem.1 hT.up i j (by omega) hj hij
    simpa [List.getD_eq_getElem?_getD, hj, show i < us.length by omega] using this
  obtain ⟨hl, ⟨h1, h2⟩ | ⟨g, cp, cur, h1, hb, hg, hc, _, _, ht⟩⟩ := hr
  · cases h1
    exact ⟨h2.symm, 0, ⟨⟨fun i hi => by omega, hup⟩, .inr h2, by omega⟩⟩
  · cases h1
    refine ⟨rfl, g, ⟨⟨fun i hi => ?_, hup⟩, .inl rfl, hc⟩⟩
    have hx : (us.map lp)[i]? = some (lp (us.getD i 0)) := by simp [List.getD_eq_getElem?_getD, hi]
    have hcur : cur[i]? = some (lp (us.getD i 0)) := by
      rw [← ht, List.getElem?_take, if_pos (by omega)] at hx
      simpa using hx
    refine ⟨cell_of hg hcur, ?_⟩
    have hm : us.getD i 0 ∈ us := by simp [List.getD_eq_getElem?_getD, hi]
    exact (hT.lk _ hm).cell

theorem bitLen_pos (n : Nat) (h : n ≠ 0) : Lib.bitLen n ≠ 0 := by
  show Lib.bitLenAux 64 n ≠ 0
  unfold Lib.bitLenAux
  simp [h]

set_option maxRecDepth 100000 in
set_option maxHeartbeats 1000000 in
theorem sortF_any (w : World) (ao : Option Addr) (R : Nat) (U : Nat → Nat) (T : Nat → Int) (n cap : Nat) (hS : RowAt w ao R U T n cap) (hn : n = 0 ∨ 16 ≤ n) (hn3 : n ≤ 300) :
    Calls Yba.prog 49 #[.slice ao n cap, .func (.func 50) #[] #[]] w fun e w' => e = .returned (.tuple #[]) ∧ Chg (fun _ => False) w w' := by
  have H1 : Hid (Calls Yba.prog 19 #[.int .u64 n] w fun e w' => e = .returned (.int .i64 (Lib.bitLen n)) ∧ w' = w) := by
    have := Yba.bits_Len n w (by omega) (by omega)
    rw [Int.toNat_natCast] at this
    exact this
  have H2 : Hid (Calls Yba.prog 64 #[.slice ao n cap, .int .i64 0, .int .i64 n, .int .i64 (Lib.bitLen n), .func (.func 50) #[] #[]] w fun e w' => e = .returned (.tuple #[]) ∧ Chg (fun _ => False) w w') := by
    rcases hn with rfl | hn
    · exact (pdq_nil _ _ _ w).mono fun e w' ⟨h1, h2⟩ => ⟨h1, by rw [h2]; exact Chg.refl _ _⟩
    · rcases hS.ptr with rfl | h0
      · exact pdq_any R U T n cap _ (by have := bitLen_pos n (by omega); omega) w hS.srt hn hn3
      · omega
  clear hS hn
  go_enter Yba.func49, Yba.ntmps49
  go_wp2_with (first
    | (go_at_call 19; refine H1.out.mono ?_; rintro e w1 ⟨rfl, rfl⟩)
    | (go_at_call 64; refine H2.out.mono ?_; rintro e w2 ⟨rfl, hc⟩))
  go_end0
  exact ⟨rfl, hc⟩

end Go.Proofs.Ybulkadpy
