/-
  (*lockRequest).blockers, over whatever its iterator yields.
-/
import Derived.Test.YbulkadpyRange
import Derived.Test.YbulkadpySorted
import Derived.Shelf.RegionOpen
namespace Go.Proofs.Ybulkadpy
open Go.RowKit Go.Shelf

attribute [local go_sem] Oper.semAt_some

/-- An append inside a region whose order is open, by its own equation. -/
theorem step_append {F : Fence} {n : Nat} {P : Program} {ops : Array Oper} {o : Oper} {a : Act} {w w' : World} {K' : Act → World → Prop} {Q : Exit → Act → World → Prop} (hw : Region.wanted o (yielded ops a.tmps) = true) (s x : Operand) (t : TypeId)
    (ho : o.op = .call { callee := .builtin .append, args := #[s, x], argTypes := #[t, t] }) (v y v' : Value) (hs : a.eval s = v) (hx : a.eval x = y) (hrun : (Builtin.append_ #[t, t] o.type #[v, y]).run P w = .ok v' w') (hK : K' (a.put o.dst v') w') :
    if Region.wanted o (yielded ops a.tmps) = true then Oper.wpIn F n P o a w K' Q else (∀ f, o.about P w a.eval = some f → F.fn f) ∧ K' (a.put o.dst undef) w := by
  rw [if_pos hw]
  unfold Oper.wpIn
  rw [Oper.semAt_eq _ _ _ (fun c => by rw [ho]; exact fun e => by cases e)]
  refine ⟨fun f hf => ?_, ?_⟩
  · unfold Oper.about at hf
    simp [ho, resolve, Target.leads] at hf
  · unfold execOp
    simp only [ho, resolve, invoke, builtin, Sem.run_bind, Sem.run_pure, Result.andThen_ok, List.map_toArray, List.map_cons, List.map_nil, hs, hx, hrun]
    exact hK

theorem Yba.info3 : (Yba.prog.info? 3).map (fun i => (i.zero, i.size, i.bytes)) = some (some (.int .i64 0), 1, 8) := by kernel_rfl

/-- What the loop's body keeps: w0 is blockers' own start, its first three blocks the box, the deferred calls, the loop's record. -/
structure BI (w0 : World) (num : Nat → Int) (pre : List Nat) (W : World) : Prop where
  below : Below w0.heap.size w0 W
  box : ∃ v, W.cell? ⟨w0.heap.size, 0, none⟩ = some v ∧ Ty W w0.heap.size 74 1 ∧ W.ownsRow w0.heap.size 3 1 v pre.length (pre.map fun x => .int .i64 (num x))
  dfr : W.heap[w0.heap.size + 1]? = some (.deferred (some []))

theorem lit_int (w : World) (z : Int) (t : TypeId) : ∀ (j : Nat) (x : Value), [Value.int .i64 z][j]? = some x → (w.alloc (.cells #[.int .i64 z] t)).cell? ((⟨w.heap.size, 0, none⟩ : Addr).add j) = some x := by
  intro j x hj
  have hlt : j < 1 := by simpa using (List.getElem?_eq_some_iff.1 hj).1
  rw [Go.WideShapes.add_plain]
  refine cell_of (heap_alloc_new w _) ?_
  rw [← hj]
  simp

theorem Chg.putObj (W : World) (l : Nat) (o : Obj) : Chg (fun b => b = l) W (W.putObj l o) :=
  ⟨rfl, rfl, rfl, by simp [World.putObj], fun _ _ hs => World.putObj_heap_other hs⟩

theorem BI.keep {S : Nat → Prop} {w0 : World} {num : Nat → Int} {pre : List Nat} {W W' : World} (h : BI w0 num pre W) (hc : Chg S W W') (h1 : ∀ b, b < w0.heap.size + 2 → ¬ S b) (h2 : ∀ (b : Nat) cur, W.heap[b]? = some (.cells cur 3 (0, 0)) → ¬ S b) : BI w0 num pre W' := by
  obtain ⟨v, hv, tB, hrow⟩ := h.box
  refine ⟨h.below.trans (hc.below h.below.size (fun b hb => h1 b (by omega))), ⟨v, ?_, ?_, ownsRow_chg hrow hc (fun b hb => ?_)⟩, hc.keep h.dfr (h1 _ (by omega))⟩
  · obtain ⟨cs, h3, _⟩ := tB
    exact cell_of (hc.keep h3 (h1 _ (by omega))) (of_cell h3 hv)
  · obtain ⟨cs, h3, h4⟩ := tB
    exact ⟨cs, hc.keep h3 (h1 _ (by omega)), h4⟩
  · obtain ⟨_, cur, hcur⟩ := row_ty hrow hb
    exact h2 b cur hcur

theorem Ints.keep {S : Nat → Prop} {W W' : World} {base : Nat} {v : Value} {zs : List Int} (h : Ints W base v zs) (hc : Chg S W W') (hs : ∀ b x, W.cell? ⟨b, 0, none⟩ = some x → ¬ S b) : Ints W' base v zs := by
  obtain ⟨ao, cap, hv, hcap, h⟩ := h
  refine ⟨ao, cap, hv, hcap, ?_⟩
  by_cases h0 : zs = []
  · exact .inl h0
  · obtain ⟨b, h1, h2, h3, h4⟩ := h.resolve_left h0
    have hpos : 0 < zs.length := List.length_pos_iff.2 h0
    have hb := hs b _ (by simpa using (h4 0 (by simpa using hpos)).1)
    refine .inr ⟨b, h1, h2, Nat.lt_of_lt_of_le h3 hc.size, fun j hj => ?_⟩
    have hk := hc.block b h3 hb
    exact ⟨(World.cell?_of_block (w := W) (a := ⟨b, 0 + j, none⟩) hk).trans (h4 j hj).1, (World.frozen?_of_block (w := W) (a := ⟨b, 0 + j, none⟩) hk).trans (h4 j hj).2⟩

/-- What the iterator is to do: yield the xs, each in a round. -/
def Iter (w0 : World) (q : Nat) (lk : Nat → Nat) (num : Nat → Int) (N : Nat) (S : List Nat → Prop) (wB : World) : Prop :=
  ∀ (r : Loop) (W : World), BI w0 num [] W ∧ W.heap[wB.heap.size + 1]? = some (.loop r) →
      (∀ pre x W1, (x < N ∧ pre.length < 1000) → BI w0 num pre W1 ∧ W1.heap[wB.heap.size + 1]? = some (.loop r) → ∀ m, YieldAt Fence.wide m Yba.prog (wB.heap.size + 1) #[.pointer (some ⟨lk x, 0, none⟩)] W1 fun e W' => e = .returned (.bool true) ∧ (BI w0 num (pre ++ [x]) W' ∧ W'.heap[wB.heap.size + 1]? = some (.loop r)) ∧ KeepT W1 W') →
      CallsIn Fence.wide (3 - 1) Yba.prog 17 #[.pointer (some ⟨q, 0, none⟩), .func (.yield (wB.heap.size + 1)) #[] #[]] W fun e W' => (∃ v, e = .returned v) ∧ ∃ xs, S xs ∧ BI w0 num xs W' ∧ W'.heap[wB.heap.size + 1]? = some (.loop r)

set_option maxRecDepth 100000 in
set_option maxHeartbeats 1000000 in
theorem blockers_any (w0 : World) (q : Nat) (lk : Nat → Nat) (num : Nat → Int) (N : Nat) (hlk : ∀ x, x < N → w0.cell? ⟨lk x, 0, none⟩ = some (.int .i64 (num x))) (S : List Nat → Prop) (hS : ∀ xs, S xs → xs.length ≤ 1000)
    (hiter : Iter w0 q lk num N S (w0.alloc (.cells #[.slice none 0 0] 74))) :
    Calls Yba.prog 8 #[.pointer (some ⟨q, 0, none⟩)] w0 fun e W' => ∃ v xs, e = .returned v ∧ S xs ∧ Ints W' w0.heap.size v (Lib.compact ((xs.map num).mergeSort fun x y => decide (x ≤ y))) ∧ Below w0.heap.size w0 W' := by
  obtain ⟨i0, hi, hz0, hz1, hz2⟩ := info_parts Yba.info3
  refine (callsIn_wide (n := 3)).1 ?_
  refine callsIn_of_wp_marks Yba.func8 rfl trivial ?_ rfl
  simp only [Yba.ntmps8, List.size_toArray, List.length_cons, List.length_nil, Nat.reduceAdd, Nat.reduceSub, Array.replicate_succ, Array.replicate_zero, List.push_toArray, List.append_toArray, List.nil_append, List.cons_append]
  gi_wp2
  have hszB : (w0.alloc (.cells #[.slice none 0 0] 74)).heap.size = w0.heap.size + 1 := by simp
  refine range_bound 17 (.pointer (some ⟨q, 0, none⟩)) rfl (enters_of Yba.func17 (by kernel_rfl) rfl) (fun x => .pointer (some ⟨lk x, 0, none⟩)) (fun pre x => x < N ∧ pre.length < 1000) rfl (BI w0 num) S ?put ?h0 (fun x => { tmps := #[.pointer (some ⟨q, 0, none⟩), undef, .slice none 0 0, .pointer (some ⟨w0.heap.size, 0, none⟩), .pointer (some ⟨lk x, 0, none⟩), .pointer (some ⟨q, 0, none⟩), .func (.func 17) #[.pointer (some ⟨q, 0, none⟩)] #[], .pointer (some ⟨lk x, 0, none⟩), undef, undef, undef, undef, undef, undef, undef, undef, undef, undef, undef, undef], defers := [] }) ?assign ?body hiter ?done
  case put =>
    intro pre W r o hI hl
    rw [hszB] at hl ⊢
    refine hI.keep (S := fun b => b = w0.heap.size + 1 + 1) (Chg.putObj _ _ _) (fun b hb e => by omega) (fun b cur hb e => ?_)
    subst e
    rw [hl] at hb
    cases hb
  case h0 =>
    intro r
    have hc : Chg (fun _ => False) w0 (((w0.alloc (.cells #[.slice none 0 0] 74)).alloc (.deferred (some []))).alloc (.loop r)) := (((Chg.refl _ _).alloc _).alloc _).alloc _
    have hB : (((w0.alloc (.cells #[.slice none 0 0] 74)).alloc (.deferred (some []))).alloc (.loop r)).heap[w0.heap.size]? = some (.cells #[.slice none 0 0] 74 (0, 0)) :=
      (((Chg.refl (fun _ => False) _).alloc _).alloc _).keep (heap_alloc_new w0 _) (fun h => h)
    refine ⟨hc.below (Nat.le_refl _) (fun _ _ h => h), ⟨_, cell_of hB rfl, ⟨_, hB, rfl⟩, World.ownsRow_nil _ _ _ _⟩, ?_⟩
    have h1 := heap_alloc_new (w0.alloc (.cells #[.slice none 0 0] 74)) (.deferred (some []))
    rw [hszB] at h1
    exact ((Chg.refl (fun _ => False) _).alloc _).keep h1 (fun h => h)
  case assign =>
    intro x W K m hK
    gi_wp2
    exact hK
  case body =>
    intro pre x W r m hx hI hl
    rw [hszB] at hl
    obtain ⟨v, hv, tB, hrow⟩ := hI.box
    obtain ⟨a0, cp0, hvf, _⟩ := owns_form hrow
    have hlx : lk x < w0.heap.size := Lib.lt_of_cell (hlk x hx.1)
    have c0 : W.cell? ⟨lk x, 0, none⟩ = some (.int .i64 (num x)) := (hI.below.cell (p := ⟨lk x, 0, none⟩) hlx).trans (hlk x hx.1)
    have fB : W.frozen? ⟨w0.heap.size, 0, none⟩ = false := tB.frozen 0
    obtain ⟨g, cap, w1, hrun, hown, hgrow, hwhere, hg1⟩ := run_append_lies (P := Yba.prog) (W.alloc (.cells #[.int .i64 (num x)] 3)).drew 74 74 w0.heap.size 3 i0 (.int .i64 0) 1 8 Yba.underlying74 hi hz0 hz1 hz2 rfl (by decide) v pre.length _ ((hrow.alloc _).drew) ⟨W.heap.size, 0, none⟩ 1 1 [.int .i64 (num x)] rfl (lit_int W _ _) (by intro u hu; simp at hu; subst hu; rfl) (by omega) (by have := hx.2; unfold maxLen; omega) (by have := hx.2; omega) (by have := hI.below.size; simp; omega) (W.heap.size + 1) (by simp)
    have mixed : Yba.prog.follows .mixedOrders = true := by kernel_rfl
    subst hvf
    have hC1 : Chg (fun b => (Value.slice a0 pre.length cp0).ownBlock = some b) W w1 := ((Chg.refl _ W).alloc _).drew.grown hgrow (fun k hk _ => hk)
    have hneB : (Value.slice a0 pre.length cp0).ownBlock ≠ some w0.heap.size := tB.neRow hrow (by decide)
    obtain ⟨cB, hcB, hsB⟩ := tB
    have hB1 : w1.heap[w0.heap.size]? = some (.cells cB 74 (0, 0)) := hC1.keep hcB hneB
    have c1 : w1.cell? ⟨w0.heap.size, 0, none⟩ = some (.slice a0 pre.length cp0) := cell_of hB1 (of_cell hcB hv)
    have f1 : w1.frozen? ⟨w0.heap.size, 0, none⟩ = false := frozen_of hB1
    have HF : Hid (∀ a', roundEnd (w0.heap.size + 1 + 1) r (BI w0 num) (pre ++ [x]) W .normal a' (w1.setCell ⟨w0.heap.size, 0, none⟩ (.slice (some ⟨g, 0, none⟩) (pre.length + 1) cap))) := fun a' => by
      have hcx : Chg (fun b => b = w0.heap.size) w1 (w1.setCell ⟨w0.heap.size, 0, none⟩ (.slice (some ⟨g, 0, none⟩) (pre.length + 1) cap)) := (Chg.refl (fun b => b = w0.heap.size) _).setCell ⟨w0.heap.size, 0, none⟩ rfl _
      have hcc : Chg (fun b => b = w0.heap.size ∨ (Value.slice a0 pre.length cp0).ownBlock = some b) W (w1.setCell ⟨w0.heap.size, 0, none⟩ (.slice (some ⟨g, 0, none⟩) (pre.length + 1) cap)) := (hC1.mono (fun _ _ h => .inr h)).trans (hcx.mono (fun _ _ h => .inl h))
      have hrb : ∀ b, (Value.slice a0 pre.length cp0).ownBlock = some b → w0.heap.size ≤ b ∧ ∃ cur, W.heap[b]? = some (.cells cur 3 (0, 0)) := fun b hb => row_ty hrow hb
      refine ⟨⟨hI.below.trans (hcc.below hI.below.size (fun b hb hs => ?_)), ⟨_, cell_set_same _ c1, ⟨_, heap_setCell_same hB1 _, by simpa using hsB⟩, ?_⟩, hcc.keep hI.dfr ?_⟩, hcc.keep hl ?_, hcc.size, fun b o hb ho => hcc.keep hb ?_⟩
      · rcases hs with hs | hs
        · omega
        · have := (hrb b hs).1; omega
      · rw [List.length_append, List.map_append]
        refine ownsRow_chg (w := w1) ?_ hcx (fun b hb e => ?_)
        · exact hown
        · have hg : g = b := by simpa [Value.ownBlock] using hb
          subst hg
          rcases hwhere with h1 | h1
          · exact hneB (by rw [h1, e])
          · have := heap_lt hcB
            omega
      · rintro (e | e)
        · omega
        · obtain ⟨_, cur, hcur⟩ := hrb _ e
          rw [hI.dfr] at hcur
          cases hcur
      · rintro (e | e)
        · omega
        · obtain ⟨_, cur, hcur⟩ := hrb _ e
          rw [hl] at hcur
          cases hcur
      · rintro (e | e)
        · rw [e, hcB] at hb
          cases hb
          rcases ho.2 with h | h | h <;> cases h
        · obtain ⟨_, cur, hcur⟩ := hrb _ e
          rw [hcur] at hb
          cases hb
          rcases ho.2 with h | h | h <;> cases h
    have hltB : w0.heap.size < W.heap.size := heap_lt hcB
    clear hown hgrow hwhere hg1 hC1 hB1 hcB hrow hI hl
    gi_wp2
    refine wpIn_region_any (by assumption) ?_
    change wpAnyIn _ _ _ _ _ _ _ _ _ (World.drew _)
    refine wpAnyIn_ready (rs := [0, 1]) (by kernel_rfl) (by simp) ?_
    refine AllReadyIn.cons rfl (fun K hK => ?_) (AllReadyIn.cons rfl (fun K hK => ?_) AllReadyIn.nil)
    · go_simp
      refine hK _ _ ?_
      clear hK K
      refine wpAnyIn_ready (rs := [1]) (by kernel_rfl) (by simp) ?_
      refine AllReadyIn.cons rfl (fun K hK => ?_) AllReadyIn.nil
      go_simp
      refine hK _ _ ?_
      clear hK K
      refine wpAnyIn_ready (rs := [2]) (by kernel_rfl) (by simp) ?_
      refine AllReadyIn.cons rfl (fun K hK => ?_) AllReadyIn.nil
      go_simp
      refine hK _ _ ?_
      clear hK K
      refine wpAnyIn_ready (rs := [3]) (by kernel_rfl) (by simp) ?_
      refine AllReadyIn.cons rfl (fun K hK => ?_) AllReadyIn.nil
      go_simp
      refine hK _ _ ?_
      clear hK K
      refine wpAnyIn_ready (rs := [4]) (by kernel_rfl) (by simp) ?_
      refine AllReadyIn.cons rfl (fun K hK => ?_) AllReadyIn.nil
      go_simp
      refine hK _ _ ?_
      clear hK K
      refine wpAnyIn_ready (rs := [5]) (by kernel_rfl) (by simp) ?_
      refine AllReadyIn.cons rfl (fun K hK => ?_) AllReadyIn.nil
      go_simp
      refine hK _ _ ?_
      clear hK K
      refine wpAnyIn_ready (rs := [6]) (by kernel_rfl) (by simp) ?_
      refine AllReadyIn.cons rfl (fun K hK => ?_) AllReadyIn.nil
      go_simp
      refine hK _ _ ?_
      clear hK K
      refine wpAnyIn_ready (rs := [7]) (by kernel_rfl) (by simp) ?_
      refine AllReadyIn.cons rfl (fun K hK => ?_) AllReadyIn.nil
      refine step_append rfl _ _ 74 rfl _ _ _ rfl rfl hrun ?_
      refine hK _ _ ?_
      clear hK K
      refine wpAnyIn_ready (rs := [8]) (by kernel_rfl) (by simp) ?_
      refine AllReadyIn.cons rfl (fun K hK => ?_) AllReadyIn.nil
      go_simp
      refine hK _ _ ?_
      clear hK K
      refine wpAnyIn_done (by kernel_rfl) ?_ _
      gi_wp2
      rw [hszB]
      exact HF.out _
    · go_simp
      refine hK _ _ ?_
      clear hK K
      refine wpAnyIn_ready (rs := [0, 2]) (by kernel_rfl) (by simp) ?_
      refine AllReadyIn.cons rfl (fun K hK => ?_) (AllReadyIn.cons rfl (fun K hK => ?_) AllReadyIn.nil)
      · go_simp
        refine hK _ _ ?_
        clear hK K
        refine wpAnyIn_ready (rs := [2]) (by kernel_rfl) (by simp) ?_
        refine AllReadyIn.cons rfl (fun K hK => ?_) AllReadyIn.nil
        go_simp
        refine hK _ _ ?_
        clear hK K
        refine wpAnyIn_ready (rs := [3]) (by kernel_rfl) (by simp) ?_
        refine AllReadyIn.cons rfl (fun K hK => ?_) AllReadyIn.nil
        go_simp
        refine hK _ _ ?_
        clear hK K
        refine wpAnyIn_ready (rs := [4]) (by kernel_rfl) (by simp) ?_
        refine AllReadyIn.cons rfl (fun K hK => ?_) AllReadyIn.nil
        go_simp
        refine hK _ _ ?_
        clear hK K
        refine wpAnyIn_ready (rs := [5]) (by kernel_rfl) (by simp) ?_
        refine AllReadyIn.cons rfl (fun K hK => ?_) AllReadyIn.nil
        go_simp
        refine hK _ _ ?_
        clear hK K
        refine wpAnyIn_ready (rs := [6]) (by kernel_rfl) (by simp) ?_
        refine AllReadyIn.cons rfl (fun K hK => ?_) AllReadyIn.nil
        go_simp
        refine hK _ _ ?_
        clear hK K
        refine wpAnyIn_ready (rs := [7]) (by kernel_rfl) (by simp) ?_
        refine AllReadyIn.cons rfl (fun K hK => ?_) AllReadyIn.nil
        refine step_append rfl _ _ 74 rfl _ _ _ rfl rfl hrun ?_
        refine hK _ _ ?_
        clear hK K
        refine wpAnyIn_ready (rs := [8]) (by kernel_rfl) (by simp) ?_
        refine AllReadyIn.cons rfl (fun K hK => ?_) AllReadyIn.nil
        go_simp
        refine hK _ _ ?_
        clear hK K
        refine wpAnyIn_done (by kernel_rfl) ?_ _
        gi_wp2
        rw [hszB]
        exact HF.out _
      · go_simp
        refine hK _ _ ?_
        clear hK K
        refine wpAnyIn_ready (rs := [0, 3]) (by kernel_rfl) (by simp) ?_
        refine AllReadyIn.cons rfl (fun K hK => ?_) (AllReadyIn.cons rfl (fun K hK => ?_) AllReadyIn.nil)
        · go_simp
          refine hK _ _ ?_
          clear hK K
          refine wpAnyIn_ready (rs := [3]) (by kernel_rfl) (by simp) ?_
          refine AllReadyIn.cons rfl (fun K hK => ?_) AllReadyIn.nil
          go_simp
          refine hK _ _ ?_
          clear hK K
          refine wpAnyIn_ready (rs := [4]) (by kernel_rfl) (by simp) ?_
          refine AllReadyIn.cons rfl (fun K hK => ?_) AllReadyIn.nil
          go_simp
          refine hK _ _ ?_
          clear hK K
          refine wpAnyIn_ready (rs := [5]) (by kernel_rfl) (by simp) ?_
          refine AllReadyIn.cons rfl (fun K hK => ?_) AllReadyIn.nil
          go_simp
          refine hK _ _ ?_
          clear hK K
          refine wpAnyIn_ready (rs := [6]) (by kernel_rfl) (by simp) ?_
          refine AllReadyIn.cons rfl (fun K hK => ?_) AllReadyIn.nil
          go_simp
          refine hK _ _ ?_
          clear hK K
          refine wpAnyIn_ready (rs := [7]) (by kernel_rfl) (by simp) ?_
          refine AllReadyIn.cons rfl (fun K hK => ?_) AllReadyIn.nil
          refine step_append rfl _ _ 74 rfl _ _ _ rfl rfl hrun ?_
          refine hK _ _ ?_
          clear hK K
          refine wpAnyIn_ready (rs := [8]) (by kernel_rfl) (by simp) ?_
          refine AllReadyIn.cons rfl (fun K hK => ?_) AllReadyIn.nil
          go_simp
          refine hK _ _ ?_
          clear hK K
          refine wpAnyIn_done (by kernel_rfl) ?_ _
          gi_wp2
          rw [hszB]
          exact HF.out _
        · go_simp
          refine hK _ _ ?_
          clear hK K
          refine wpAnyIn_ready (rs := [0, 4]) (by kernel_rfl) (by simp) ?_
          refine AllReadyIn.cons rfl (fun K hK => ?_) (AllReadyIn.cons rfl (fun K hK => ?_) AllReadyIn.nil)
          · go_simp
            refine hK _ _ ?_
            clear hK K
            refine wpAnyIn_ready (rs := [4]) (by kernel_rfl) (by simp) ?_
            refine AllReadyIn.cons rfl (fun K hK => ?_) AllReadyIn.nil
            go_simp
            refine hK _ _ ?_
            clear hK K
            refine wpAnyIn_ready (rs := [5]) (by kernel_rfl) (by simp) ?_
            refine AllReadyIn.cons rfl (fun K hK => ?_) AllReadyIn.nil
            go_simp
            refine hK _ _ ?_
            clear hK K
            refine wpAnyIn_ready (rs := [6]) (by kernel_rfl) (by simp) ?_
            refine AllReadyIn.cons rfl (fun K hK => ?_) AllReadyIn.nil
            go_simp
            refine hK _ _ ?_
            clear hK K
            refine wpAnyIn_ready (rs := [7]) (by kernel_rfl) (by simp) ?_
            refine AllReadyIn.cons rfl (fun K hK => ?_) AllReadyIn.nil
            refine step_append rfl _ _ 74 rfl _ _ _ rfl rfl hrun ?_
            refine hK _ _ ?_
            clear hK K
            refine wpAnyIn_ready (rs := [8]) (by kernel_rfl) (by simp) ?_
            refine AllReadyIn.cons rfl (fun K hK => ?_) AllReadyIn.nil
            go_simp
            refine hK _ _ ?_
            clear hK K
            refine wpAnyIn_done (by kernel_rfl) ?_ _
            gi_wp2
            rw [hszB]
            exact HF.out _
          · go_simp
            refine hK _ _ ?_
            clear hK K
            refine wpAnyIn_ready (rs := [0, 5]) (by kernel_rfl) (by simp) ?_
            refine AllReadyIn.cons rfl (fun K hK => ?_) (AllReadyIn.cons rfl (fun K hK => ?_) AllReadyIn.nil)
            · go_simp
              refine hK _ _ ?_
              clear hK K
              refine wpAnyIn_ready (rs := [5]) (by kernel_rfl) (by simp) ?_
              refine AllReadyIn.cons rfl (fun K hK => ?_) AllReadyIn.nil
              go_simp
              refine hK _ _ ?_
              clear hK K
              refine wpAnyIn_ready (rs := [6]) (by kernel_rfl) (by simp) ?_
              refine AllReadyIn.cons rfl (fun K hK => ?_) AllReadyIn.nil
              go_simp
              refine hK _ _ ?_
              clear hK K
              refine wpAnyIn_ready (rs := [7]) (by kernel_rfl) (by simp) ?_
              refine AllReadyIn.cons rfl (fun K hK => ?_) AllReadyIn.nil
              refine step_append rfl _ _ 74 rfl _ _ _ rfl rfl hrun ?_
              refine hK _ _ ?_
              clear hK K
              refine wpAnyIn_ready (rs := [8]) (by kernel_rfl) (by simp) ?_
              refine AllReadyIn.cons rfl (fun K hK => ?_) AllReadyIn.nil
              go_simp
              refine hK _ _ ?_
              clear hK K
              refine wpAnyIn_done (by kernel_rfl) ?_ _
              gi_wp2
              rw [hszB]
              exact HF.out _
            · go_simp
              refine hK _ _ ?_
              clear hK K
              refine wpAnyIn_ready (rs := [0, 6]) (by kernel_rfl) (by simp) ?_
              refine AllReadyIn.cons rfl (fun K hK => ?_) (AllReadyIn.cons rfl (fun K hK => ?_) AllReadyIn.nil)
              · go_simp
                refine hK _ _ ?_
                clear hK K
                refine wpAnyIn_ready (rs := [6]) (by kernel_rfl) (by simp) ?_
                refine AllReadyIn.cons rfl (fun K hK => ?_) AllReadyIn.nil
                go_simp
                refine hK _ _ ?_
                clear hK K
                refine wpAnyIn_ready (rs := [7]) (by kernel_rfl) (by simp) ?_
                refine AllReadyIn.cons rfl (fun K hK => ?_) AllReadyIn.nil
                refine step_append rfl _ _ 74 rfl _ _ _ rfl rfl hrun ?_
                refine hK _ _ ?_
                clear hK K
                refine wpAnyIn_ready (rs := [8]) (by kernel_rfl) (by simp) ?_
                refine AllReadyIn.cons rfl (fun K hK => ?_) AllReadyIn.nil
                go_simp
                refine hK _ _ ?_
                clear hK K
                refine wpAnyIn_done (by kernel_rfl) ?_ _
                gi_wp2
                rw [hszB]
                exact HF.out _
              · go_simp
                refine hK _ _ ?_
                clear hK K
                refine wpAnyIn_ready (rs := [0]) (by kernel_rfl) (by simp) ?_
                refine AllReadyIn.cons rfl (fun K hK => ?_) AllReadyIn.nil
                go_simp
                refine hK _ _ ?_
                clear hK K
                refine wpAnyIn_ready (rs := [7]) (by kernel_rfl) (by simp) ?_
                refine AllReadyIn.cons rfl (fun K hK => ?_) AllReadyIn.nil
                refine step_append rfl _ _ 74 rfl _ _ _ rfl rfl hrun ?_
                refine hK _ _ ?_
                clear hK K
                refine wpAnyIn_ready (rs := [8]) (by kernel_rfl) (by simp) ?_
                refine AllReadyIn.cons rfl (fun K hK => ?_) AllReadyIn.nil
                go_simp
                refine hK _ _ ?_
                clear hK K
                refine wpAnyIn_done (by kernel_rfl) ?_ _
                gi_wp2
                rw [hszB]
                exact HF.out _
  case done =>
    intro xs W hSx hI
    obtain ⟨v, hv, tB, hrow⟩ := hI.box
    obtain ⟨a0, cp0, hvf, _⟩ := owns_form hrow
    have hlen := hS xs hSx
    have hints : Ints W w0.heap.size v (xs.map num) := Ints.of_row (by rw [List.length_map, List.map_map]; exact hrow)
    have hneB : v.ownBlock ≠ some w0.heap.size := tB.neRow hrow (by decide)
    have hneD : v.ownBlock ≠ some (w0.heap.size + 1) := fun e => by
      obtain ⟨_, cur, hcur⟩ := row_ty hrow e
      rw [hI.dfr] at hcur
      cases hcur
    have hge : ∀ b, v.ownBlock = some b → w0.heap.size ≤ b := fun b hb => (row_ty hrow hb).1
    have hl2 : (xs.map num).length ≤ 1000 := by rw [List.length_map]; exact hlen
    have HSORT := hide ((sort_c W w0.heap.size v (xs.map num) hl2 hints).mono (R' := fun e W' => e = .returned (.tuple #[]) ∧ W'.cell? ⟨w0.heap.size, 0, none⟩ = some v ∧
        Calls Yba.prog 10 #[v] W' fun e W2 => ∃ v', e = .returned v' ∧ Ints W2 w0.heap.size v' (Lib.compact ((xs.map num).mergeSort fun x y => decide (x ≤ y))) ∧ Below w0.heap.size w0 W2 ∧ W2.heap[w0.heap.size + 1]? = some (.deferred (some []))) (fun e W' ⟨he, h1, h2⟩ => by
      obtain ⟨cB, hcB, hsB⟩ := tB
      refine ⟨he, cell_of (h2.keep hcB hneB) (of_cell hcB hv), ?_⟩
      refine (compact_c W' w0.heap.size v _ (by rw [List.length_mergeSort]; exact hl2) h1).mono ?_
      rintro e W2 ⟨v', he', h3, h4⟩
      have hcc := h2.trans h4
      exact ⟨v', he', h3, hI.below.trans (hcc.below hI.below.size (fun b hb e => by have := hge b e; omega)), hcc.keep hI.dfr hneD⟩))
    subst hvf
    clear hI hrow hints hneB hneD hge tB
    gi_wp2_with (first
      | (refine ⟨trivial, ?_⟩; gi_at_call 9; refine (callsIn_wide.2 HSORT.out).mono ?_; rintro e W2 ⟨rfl, hc2, hC⟩; have HC := hide hC; clear hC)
      | (refine ⟨trivial, ?_⟩; gi_at_call 10; refine (callsIn_wide.2 HC.out).mono ?_; rintro e W3 ⟨v', rfl, hi3, hb3, hd3⟩))
    refine ⟨by simp, .inl ⟨_, _, rfl, run_takeDeferred hd3, ?_⟩⟩
    have hcx : Chg (fun b => b = w0.heap.size + 1) W3 (W3.putObj (w0.heap.size + 1) (.deferred none)) := Chg.putObj _ _ _
    refine ⟨_, results_tmp rfl _ _ _, v', xs, rfl, hSx, hi3.keep hcx (fun b x hb e => ?_), hb3.trans (hcx.below hb3.size (fun b hb e => by omega))⟩
    rw [e] at hb
    simp [World.cell?, hd3] at hb

end Go.Proofs.Ybulkadpy
