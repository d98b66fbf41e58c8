/-
  (*ageHeap).add over lockers in the order of their times, all of which wait on the list.
-/
import Derived.Test.YbulkadpyAdd2
namespace Go.Proofs.Ybulkadpy
open Go.RowKit
open Go.ChangeMaps (setBlock)

/-- What add leaves. -/
def AddPost (w : World) (base I o : Nat) (c : Array Value) (v : Value) (us : List Nat) (t : Nat) (w' : World) : Prop :=
  ∃ (g cap : Nat) (lim : Int), 16 ≤ lim ∧ w'.heap[I]? = some (.cells ((c.setIfInBounds (o + 1) (.int .i64 lim)).setIfInBounds o (.slice (some ⟨g, 0, none⟩) (us.length + 1) cap)) 68 (0, 0)) ∧ w'.ownsRow base 54 1 (.slice (some ⟨g, 0, none⟩) (us.length + 1) cap) (us.length + 1) ((us ++ [t]).map lp) ∧
    (v.ownBlock = some g ∨ w.heap.size ≤ g) ∧ Chg (fun b => b = I ∨ v.ownBlock = some b) w w'

theorem set_same {c : Array Value} {o : Nat} {v : Value} (h : c[o]? = some v) : c.setIfInBounds o v = c := by
  obtain ⟨hlt, he⟩ := Array.getElem?_eq_some_iff.1 h
  apply Array.ext_getElem?
  intro i
  rw [Array.getElem?_setIfInBounds]
  by_cases hi : o = i
  · subst hi; simp [hlt, he]
  · simp [hi]

theorem ownsRow_chg {S : Nat → Prop} {w w' : World} {base : Nat} {e : TypeId} {k : Nat} {v : Value} {n : Nat} {xs : List Value} (h : w.ownsRow base e k v n xs) (hc : Chg S w w') (hs : ∀ b, v.ownBlock = some b → ¬ S b) : w'.ownsRow base e k v n xs := by
  obtain ⟨hl, hh⟩ := h
  refine ⟨hl, ?_⟩
  rcases hh with h1 | ⟨g, cp, cur, h1, h2, h3, h4⟩
  · exact .inl h1
  · exact .inr ⟨g, cp, cur, h1, h2, hc.keep h3 (hs g (by rw [h1]; rfl)), h4⟩

/-- What add is given. -/
structure AddPre (w : World) (base I o l : Nat) (c : Array Value) (v : Value) (us : List Nat) (ts : Nat → Int) (t B C : Nat) (lim : Int) : Prop where
  hp : HeapAt w base I o c 68 v us.length (us.map lp)
  hlim : c[o + 1]? = some (.int .i64 lim)
  lims : lim = 0 ∧ us = [] ∨ 16 ≤ lim
  hn : us.length ≤ 300
  hT : Tms w ts us
  ht : Lk w t (ts t)
  hl : ∀ u ∈ us, ts u < ts t
  on : ∀ u ∈ us, On w I l u
  hB : w.cell? ⟨B, 0, none⟩ = some (.pointer (some ⟨I, 0, none⟩))
  hC : w.cell? ⟨C, 0, none⟩ = some (.int .i64 l)

section
variable {w : World} {base I o l : Nat} {c : Array Value} {v : Value} {us : List Nat} {ts : Nat → Int} {t B C : Nat} {lim : Int} {ao : Option Addr} {cap : Nat}

theorem AddPre.push (h : AddPre w base I o l c v us ts t B C lim) {W : World} {lm : Int} (hc : Chg (fun b => b = I) w W) (hI : W.heap[I]? = some (.cells (c.setIfInBounds (o + 1) (.int .i64 lm)) 68 (0, 0))) (h16 : 16 ≤ lm) :
    Calls Yba.prog 21 #[.iface 134 (.pointer (some ⟨I, o, none⟩)), .iface 54 (.pointer (some ⟨t, 0, none⟩))] W fun e w' => e = .returned (.tuple #[]) ∧ AddPost w base I o c v us t w' := by
  have hne : ∀ b, v.ownBlock = some b → ¬ b = I := fun b hb e => h.hp.ne (by rw [hb, e])
  have hp : HeapAt W base I o (c.setIfInBounds (o + 1) (.int .i64 lm)) 68 v us.length (us.map lp) := ⟨hI, by rw [Array.getElem?_setIfInBounds_ne (by omega)]; exact h.hp.ho, ownsRow_chg h.hp.row hc hne, h.hp.ne, Nat.le_trans h.hp.base hc.size⟩
  refine (heapPush_any W base I o _ v us ts t hp h.hn (h.hT.chg hc fun u hu e => (h.hT.lk u hu).neCells h.hp.hI (by decide) e) (h.ht.chg hc fun e => h.ht.neCells h.hp.hI (by decide) e) h.hl).mono ?_
  rintro e w' ⟨he, g, cap, h1, h2, h3, h4⟩
  refine ⟨he, g, cap, lm, h16, h1, h2, ?_, (hc.mono (fun _ _ h => .inl h)).trans h4⟩
  rcases h3 with h3 | h3
  · exact .inl h3
  · exact .inr (Nat.le_trans hc.size h3)

/-- What stands in the middle of the clearing. -/
def Mid (w : World) (I : Nat) (c : Array Value) (W : World) : Prop := Chg (fun b => b = I) w W ∧ W.heap[I]? = some (.cells c 68 (0, 0))

theorem Mid.store {W : World} (h : Mid w I c W) (hv : c[o]? = some v) : Mid w I c (W.setCell ⟨I, o, none⟩ v) :=
  ⟨h.1.setCell ⟨I, o, none⟩ rfl _, by rw [heap_setCell_same h.2, set_same hv]⟩

theorem Mid.chg {W : World} (h : Mid w I c W) {W' : World} (hc : Chg (fun _ => False) W W') : Mid w I c W' := ⟨h.1.trans (hc.mono (fun _ _ h => h.elim)), hc.keep h.2 (fun h => h)⟩

theorem AddPre.rowAt (h : AddPre w base I o l c (.slice ao us.length cap) us ts t B C lim) {W : World} (hm : Mid w I c W) : ∃ R, RowAt W ao R (fun i => us.getD i 0) (fun i => ts (us.getD i 0)) us.length cap ∧ Dis W (fun i => us.getD i 0) us.length := by
  have hT : Tms W ts us := h.hT.chg hm.1 fun u hu e => (h.hT.lk u hu).neCells h.hp.hI (by decide) e
  obtain ⟨_, R, hR⟩ := rowAt_of (n := us.length) (ao := ao) (cap := cap) (ownsRow_chg h.hp.row hm.1 (fun b hb e => h.hp.ne (by rw [hb, e]))) hT
  refine ⟨R, hR, fun i hi => ?_⟩
  have hmem : us.getD i 0 ∈ us := by simp [List.getD_eq_getElem?_getD, hi]
  obtain ⟨cs, h1, _⟩ := hT.lk _ hmem
  exact ⟨cs, _, h1⟩

theorem AddPre.sort (h : AddPre w base I o l c (.slice ao us.length cap) us ts t B C lim) (hge : lim ≤ us.length) {W : World} (hm : Mid w I c W) :
    Calls Yba.prog 49 #[.slice ao us.length cap, .func (.func 50) #[] #[]] W fun e w' => e = .returned (.tuple #[]) ∧ Mid w I c w' := by
  obtain ⟨R, hR, _⟩ := h.rowAt hm
  refine (sortF_any W ao R _ _ us.length cap hR ?_ h.hn).mono fun e w' ⟨he, hc⟩ => ⟨he, hm.chg hc⟩
  rcases h.lims with ⟨_, h2⟩ | h2
  · exact .inl (by rw [h2]; rfl)
  · exact .inr (by omega)

theorem AddPre.comp (h : AddPre w base I o l c (.slice ao us.length cap) us ts t B C lim) {W : World} (hm : Mid w I c W) :
    Calls Yba.prog 52 #[.slice ao us.length cap] W fun e w' => e = .returned (.slice ao us.length cap) ∧ Mid w I c w' := by
  obtain ⟨R, hR, hD⟩ := h.rowAt hm
  exact (compactP_any W ao R _ _ us.length cap h.hn hR hD).mono fun e w' ⟨he, hc⟩ => ⟨he, hm.chg hc⟩

theorem AddPre.del (h : AddPre w base I o l c (.slice ao us.length cap) us ts t B C lim) (k : Nat) :
    Calls Yba.prog 47 #[.slice ao us.length cap, .func (.func 48) #[] #[.pointer (some ⟨w.heap.size, 0, none⟩)]] ((w.alloc (.cells #[onF B C] 105)).drewN k) fun e w' => e = .returned (.slice ao us.length cap) ∧ Mid w I c w' := by
  have hc0 : Chg (fun _ => False) w ((w.alloc (.cells #[onF B C] 105)).drewN k) := ((Chg.refl _ _).alloc _).drewN _
  have hm : Mid w I c ((w.alloc (.cells #[onF B C] 105)).drewN k) := Mid.chg (W := w) ⟨Chg.refl _ _, h.hp.hI⟩ hc0
  obtain ⟨R, hR, _⟩ := h.rowAt hm
  refine (deleteF_any I l B C w.heap.size _ ao R _ _ us.length cap h.hn hR (fun i hi => ?_) (hc0.cell h.hB) (hc0.cell h.hC) (cell_of (heap_alloc_new w _) rfl)).mono fun e w' ⟨he, hc⟩ => ⟨he, hm.chg hc⟩
  have hmem : us.getD i 0 ∈ us := by simp [List.getD_eq_getElem?_getD, hi]
  exact (h.on _ hmem).chg hc0

set_option maxRecDepth 100000 in
set_option maxHeartbeats 2000000 in
theorem add_any (h : AddPre w base I o l c (.slice ao us.length cap) us ts t B C lim) :
    Calls Yba.prog 26 #[.pointer (some ⟨I, o, none⟩), .pointer (some ⟨t, 0, none⟩), .func (.func 53) #[] #[.pointer (some ⟨B, 0, none⟩), .pointer (some ⟨C, 0, none⟩)]] w fun e w' => e = .returned (.tuple #[]) ∧ AddPost w base I o c (.slice ao us.length cap) us t w' := by
  have hc0 : Chg (fun _ => False) w (w.alloc (.cells #[onF B C] 105)) := (Chg.refl _ _).alloc _
  have c0 : (w.alloc (.cells #[.func (.func 53) #[] #[.pointer (some ⟨B, 0, none⟩), .pointer (some ⟨C, 0, none⟩)]] 105)).cell? ⟨I, o, none⟩ = some (.slice ao us.length cap) := hc0.cell (cell_of h.hp.hI h.hp.ho)
  have c1 : (w.alloc (.cells #[.func (.func 53) #[] #[.pointer (some ⟨B, 0, none⟩), .pointer (some ⟨C, 0, none⟩)]] 105)).cell? ⟨I, o + 1, none⟩ = some (.int .i64 lim) := hc0.cell (cell_of h.hp.hI h.hlim)
  have H : Hid (AddPre w base I o l c (.slice ao us.length cap) us ts t B C lim) := h
  have hn := h.hn
  clear h hc0
  by_cases hge : lim ≤ us.length
  · have hlen : lim ≤ (us.length : Int) := hge
    go_enter Yba.func26, Yba.ntmps26
    go_wp2
    go_quiet (fail)
    go_wp2_with (first
      | (go_at_call 47; refine (H.out.del _).mono ?_; rintro e w1 ⟨rfl, hm1⟩; have d1 : w1.cell? ⟨I, o, none⟩ = some (.slice ao us.length cap) := cell_of hm1.2 H.out.hp.ho; have e1 : w1.frozen? ⟨I, o, none⟩ = false := frozen_of hm1.2; have HM1 : Hid (Mid w I c (w1.setCell ⟨I, o, none⟩ (.slice ao us.length cap))) := hm1.store H.out.hp.ho; clear hm1 c0 c1)
      | (go_at_call 49; refine (H.out.sort hge HM1.out).mono ?_; rintro e w2 ⟨rfl, hm2⟩; have d2 : w2.cell? ⟨I, o, none⟩ = some (.slice ao us.length cap) := cell_of hm2.2 H.out.hp.ho; have e2 : w2.frozen? ⟨I, o, none⟩ = false := frozen_of hm2.2; have HM2 : Hid (Mid w I c w2) := hm2; clear hm2 d1 e1 HM1)
      | (go_at_call 52; refine (H.out.comp HM2.out).mono ?_; rintro e w3 ⟨rfl, hm3⟩; have d3 : w3.cell? ⟨I, o, none⟩ = some (.slice ao us.length cap) := cell_of hm3.2 H.out.hp.ho; have e3 : w3.frozen? ⟨I, o, none⟩ = false := frozen_of hm3.2; have d4 : w3.cell? ⟨I, o + 1, none⟩ = some (.int .i64 lim) := cell_of hm3.2 H.out.hlim; have e4 : w3.frozen? ⟨I, o + 1, none⟩ = false := frozen_of hm3.2; have HM3 : Hid (Mid w I c (w3.setCell ⟨I, o, none⟩ (.slice ao us.length cap))) := hm3.store H.out.hp.ho; clear hm3 d2 e2 HM2)
      | (go_at_call 21; refine (H.out.push (lm := max (2 * (us.length : Int)) 16) (HM3.out.1.setCell ⟨I, o + 1, none⟩ rfl _) (heap_setCell_same HM3.out.2 _) (by omega)).mono ?_; rintro e w4 ⟨rfl, hpost⟩))
    go_end0
    exact ⟨rfl, hpost⟩
  · have hd : decide (lim ≤ (us.length : Int)) = false := decide_eq_false hge
    have h16 : 16 ≤ lim := by
      rcases H.out.lims with ⟨h1, h2⟩ | h1
      · exact absurd (show lim ≤ us.length by omega) hge
      · exact h1
    have HP : Hid (∀ k, Calls Yba.prog 21 #[.iface 134 (.pointer (some ⟨I, o, none⟩)), .iface 54 (.pointer (some ⟨t, 0, none⟩))] ((w.alloc (.cells #[.func (.func 53) #[] #[.pointer (some ⟨B, 0, none⟩), .pointer (some ⟨C, 0, none⟩)]] 105)).drewN k) fun e w' => e = .returned (.tuple #[]) ∧ AddPost w base I o c (.slice ao us.length cap) us t w') := fun k => by
      refine H.out.push (lm := lim) (((Chg.refl (fun b => b = I) w).alloc _).drewN _) ?_ h16
      rw [set_same H.out.hlim]
      exact (((Chg.refl (fun _ => False) w).alloc (.cells #[onF B C] 105)).drewN _).keep H.out.hp.hI (fun h => h)
    go_enter Yba.func26, Yba.ntmps26
    go_wp2
    go_quiet (fail)
    go_wp2_with (go_at_call 21; refine (HP.out _).mono ?_; rintro e w4 ⟨rfl, hpost⟩)
    go_end0
    exact ⟨rfl, hpost⟩
end

end Go.Proofs.Ybulkadpy
