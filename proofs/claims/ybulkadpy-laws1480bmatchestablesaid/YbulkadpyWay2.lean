/-
  holdersInWay for an exclusive request: the range over the holders.
-/
import Derived.Test.YbulkadpyWay
import Derived.Sort.MapsRangeIn
namespace Go.Proofs.Ybulkadpy
open Go.RowKit Go.Shelf
open Go.ChangeMaps (setBlock)

section
variable {F : Fence} {n : Nat} {P : Program} (w : World) {ops : Array Oper} {rest : List Oper} {o : Oper} {a : Act} {Q : Exit → Act → World → Prop}

/-- 'range m', fenced. -/
theorem wpListIn_range_raw (hg : o.guard = none) (m : Operand) (t k e : TypeId) (hop : o.op = Op.range t m) (ht : P.underlying t = some (.map k e)) (b : Nat) (es : Array MapEntry) (c : Nat)
    (hm : a.eval m = .map (some b)) (hb : w.heap[b]? = some (.map es c))
    (hK : ∀ w1, w1.heap[w.heap.size]? = some (.mapIter (some b) c #[] c) → Chg (fun _ => False) w w1 → w1.heap.size = w.heap.size + 1 → wpListIn F n P ops Q rest (a.put o.dst (.pointer (some ⟨w.heap.size, 0, none⟩))) w1) :
    wpListIn F n P ops Q (o :: rest) a w := by
  refine wpListIn_plain hg fun K' hK' => ?_
  have hrun := run_range_map (P := P) w t k e b es c ht hb
  unfold Oper.wpIn
  refine ⟨by simp [Oper.about, hop], ?_⟩
  rw [Oper.semAt_plain F _ _ (by rw [hop]; intro c hc'; cases hc')]
  simp [execOp, hop, hm, hrun, Result.andThen]
  exact hK' _ _ (hK _ (heap_alloc_new _ _) ((Chg.refl _ _).alloc _) (by show (w.heap.push _).size = _; simp))

/-- 'next', fenced. -/
theorem wpListIn_next_raw (hg : o.guard = none) (it : Operand) (hop : o.op = Op.next it false) (b r since c0 : Nat) (seen : Array Nat) (es : Array MapEntry) (c : Nat)
    (hit : a.eval it = .pointer (some ⟨r, 0, none⟩)) (hr : w.heap[r]? = some (.mapIter (some b) since seen c0)) (hb : w.heap[b]? = some (.map es c)) (hne : b ≠ r) (hold : ∀ x ∈ es.toList, x.born < since) (hsc : since ≤ c0) (hnd : (es.toList.map (·.born)).Nodup)
    (hDone : (leftOf es seen).size = 0 → wpListIn F n P ops Q rest (a.put o.dst (.tuple #[.bool false])) w)
    (hMore : ∀ (x : MapEntry) (w1 : World), x ∈ (leftOf es seen).toList → w1.heap[r]? = some (.mapIter (some b) since (seen.push x.born) c) → Chg (fun k => k = r) w w1 → w1.heap.size = w.heap.size →
      (Instr.entry (.pointer (some ⟨r, 0, none⟩))).run P w1 = .ok (.tuple #[x.key, x.val]) w1 → wpListIn F n P ops Q rest (a.put o.dst (.tuple #[.bool true, x.key, x.val])) w1) :
    wpListIn F n P ops Q (o :: rest) a w := by
  refine wpListIn_plain hg fun K' hK' => ?_
  unfold Oper.wpIn
  refine ⟨by simp [Oper.about, hop], ?_⟩
  rw [Oper.semAt_plain F _ _ (by rw [hop]; intro c hc'; cases hc')]
  rcases run_next_at (P := P) w o.type r b since c0 seen es c hr hb hold hsc with ⟨h0, hrun⟩ | ⟨x, hx, w1, hw1, hrun⟩
  · simp [execOp, hop, hit, hrun, Result.andThen]
    exact hK' _ _ (hDone h0)
  · have hr1 : w1.heap[r]? = some (.mapIter (some b) since seen c0) := by rcases hw1 with rfl | rfl <;> exact hr
    have hb1 : w1.heap[b]? = some (.map es c) := by rcases hw1 with rfl | rfl <;> exact hb
    have hs1 : w1.heap.size = w.heap.size := by rcases hw1 with rfl | rfl <;> rfl
    have hc1 : Chg (fun k => k = r) w w1 := by rcases hw1 with rfl | rfl <;> first | exact Chg.refl _ _ | exact (Chg.refl _ _).drew
    have hr2 := heap_setBlock hr1 (.mapIter (some b) since (seen.push x.born) c)
    have hb2 : (setBlock w1 r (.mapIter (some b) since (seen.push x.born) c)).heap[b]? = some (.map es c) := (heap_setBlock_ne _ hne).trans hb1
    simp [execOp, hop, hit, hrun, Result.andThen]
    exact hK' _ _ (hMore x _ hx hr2 (hc1.setBlock rfl _) (by show (w1.heap.setIfInBounds _ _).size = _; simp [hs1])
      (run_entry_at (P := P) _ r b since seen es c x hr2 hb2 (mem_left hx).1 hnd))
end

/-- A list without the one entry. -/
theorem perm_without : ∀ (l : List MapEntry) (x : MapEntry), x ∈ l → (l.map (·.born)).Nodup → l.Perm (x :: l.filter fun y => decide (y.born ≠ x.born))
  | y :: l, x, hx, hnd => by
    have hnd' := hnd
    rw [List.map_cons, List.nodup_cons] at hnd'
    rcases List.mem_cons.1 hx with rfl | hx'
    · have : l.filter (fun y => decide (y.born ≠ x.born)) = l := List.filter_eq_self.2 fun z hz => by
        simp
        intro e
        exact hnd'.1 (List.mem_map.2 ⟨z, hz, e⟩)
      rw [List.filter_cons_of_neg (by simp), this]
    · have hne : y.born ≠ x.born := fun e => hnd'.1 (by rw [e]; exact List.mem_map.2 ⟨x, hx', rfl⟩)
      rw [List.filter_cons_of_pos (by simpa using hne)]
      exact ((perm_without l x hx' hnd'.2).cons y).trans (List.Perm.swap x y _)

theorem left_push (es : Array MapEntry) (seen : Array Nat) (b : Nat) : (leftOf es (seen.push b)).toList = (leftOf es seen).toList.filter fun y => decide (y.born ≠ b) := by
  unfold leftOf
  rw [Array.toList_filter, Array.toList_filter, List.filter_filter]
  congr 1
  funext y
  simp [Bool.and_comm]

theorem left_perm (es : Array MapEntry) (seen : Array Nat) (x : MapEntry) (hx : x ∈ (leftOf es seen).toList) (hnd : (es.toList.map (·.born)).Nodup) : (leftOf es seen).toList.Perm (x :: (leftOf es (seen.push x.born)).toList) := by
  rw [left_push]
  refine perm_without _ x hx ?_
  refine hnd.sublist (List.Sublist.map _ ?_)
  unfold leftOf
  rw [Array.toList_filter]
  exact List.filter_sublist

/-- The number of the locker that an entry of the holders' map names. -/
def ix (ts : Nat → Int) (x : MapEntry) : Nat :=
  match x.key with
  | .pointer (some a) => (ts a.block).toNat
  | _ => 0

theorem ix_key {ts : Nat → Int} {lk : Nat → Nat} (hts : ∀ j, ts (lk j) = j) {x : MapEntry} {i : Nat} (h : x.key = lp (lk i)) : ix ts x = i := by
  unfold ix
  rw [h]
  show (ts (lk i)).toNat = i
  rw [hts]
  simp

/-- The holders but one, in the map's order. -/
def hOf (ts : Nat → Int) (who : Nat) (l : List MapEntry) : List Nat := (l.map (ix ts)).filter fun i => decide (i ≠ who)

/-- What stands in the range over the holders. -/
def HLoop (w0 : World) (num : Nat → Int) (ts : Nat → Int) (HM who L B : Nat) (es : Array MapEntry) (r : Loop) (wr : World) : Prop :=
  ∃ seen c0 pre, wr.heap[B]? = some (.mapIter (some HM) es.size seen c0) ∧ es.size ≤ c0 ∧ BI w0 num pre wr ∧ wr.heap[L]? = some (.loop r) ∧ (pre ++ hOf ts who (leftOf es seen).toList).Perm (hOf ts who es.toList)

set_option maxRecDepth 100000 in
set_option maxHeartbeats 1000000 in
theorem hold_excl (w0 : World) (I HM : Nat) (lk aw : Nat → Nat) (ts : Nat → Int) (hts : ∀ j, ts (lk j) = j) (es : Array MapEntry) (q who N : Nat) (ex : Option Nat) (num : Nat → Int) (L : Nat) (hL : w0.heap.size + 2 ≤ L) (r : Loop) (n : Nat) (h : AskQ w0 I HM lk aw es q who N 2 ex) (hY : RoundOk w0 lk num N L r) (W : World) (hJ : BI w0 num [] W ∧ W.heap[L]? = some (.loop r)) :
    CallsIn Fence.wide n Yba.prog 28 #[.pointer (some ⟨q, 0, none⟩), .func (.yield L) #[] #[]] W fun e W' => e = .returned (.bool true) ∧ ∃ xs, xs.Perm (hOf ts who es.toList) ∧ BI w0 num xs W' ∧ W'.heap[L]? = some (.loop r) := by
  obtain ⟨j48, hj48, hz48⟩ := info_of Yba.info48 (by decide)
  have k : ∀ {p : Addr} {v : Value}, w0.cell? p = some v → W.cell? p = some v := fun {p} {v} hv => (hJ.1.below.cell (p := p) (Lib.lt_of_cell hv)).trans hv
  have q0 := k h.q0
  have q1 := k h.q1
  have q2 := k h.q2
  have i0 := k h.i0
  have hHM : ∀ {pre : List Nat} {V : World}, BI w0 num pre V → V.heap[HM]? = some (.map es es.size) := fun {pre} {V} hb => (hb.below.block HM (heap_lt h.hld.hm)).trans h.hld.hm
  have hM0 := hHM hJ.1
  have hLW : L < W.heap.size := heap_lt hJ.2
  have H := hide (show (∀ j, ts (lk j) = j) ∧ AskQ w0 I HM lk aw es q who N 2 ex ∧ RoundOk w0 lk num N L r ∧ (BI w0 num [] W ∧ W.heap[L]? = some (.loop r)) ∧ Yba.prog.info? 48 = some j48 from ⟨hts, h, hY, hJ, hj48⟩)
  have HH := hide (show ∀ (pre : List Nat) (V : World), BI w0 num pre V → V.heap[HM]? = some (.map es es.size) from fun pre V hb => hHM hb)
  have HM0 := hide hM0
  clear hts h hY hJ hj48 hHM hM0 k
  refine callsIn_of_wp Yba.func28 rfl trivial ?_ rfl
  simp only [Yba.ntmps28, List.size_toArray, List.length_cons, List.length_nil, Nat.reduceAdd, Nat.reduceSub, Array.replicate_succ, Array.replicate_zero, List.push_toArray, List.append_toArray, List.nil_append, List.cons_append]
  gi_wp2_with (gi_at_range; refine wpListIn_range_raw _ rfl _ 58 54 69 rfl Yba.underlying58 HM es es.size rfl HM0.out ?_)
  intro w1 hit hch hsz
  have hst : HLoop w0 num ts HM who L W.heap.size es r w1 := by
    refine ⟨#[], _, [], hit, Nat.le_refl _, H.out.2.2.2.1.1.keep hch (fun _ _ h => h) (fun _ _ _ h => h), hch.keep H.out.2.2.2.1.2 (fun h => h), ?_⟩
    have : (leftOf es #[]).toList = es.toList := by
      unfold leftOf
      rw [Array.toList_filter]
      exact List.filter_eq_self.2 (by simp)
    rw [this]
    exact List.Perm.refl _
  have HST := hide hst
  clear hst hit hch hsz i0
  gi_wp2
  gi_loopw [6] (fun _ wr => HLoop w0 num ts HM who L W.heap.size es r wr) (fun _ wr => (leftOf es (wr.iterSeen W.heap.size)).size)
  case atStart => exact HST.out
  case round =>
    clear HST
    obtain ⟨seen, c0, pre, hit, hc0, hbi, hlp, hperm⟩ := hrel
    have hnr : HM ≠ W.heap.size := Nat.ne_of_lt (heap_lt HM0.out)
    have HK := hide (show wr.heap[W.heap.size]? = some (.mapIter (some HM) es.size seen c0) ∧ wr.heap[HM]? = some (.map es es.size) ∧ BI w0 num pre wr ∧ wr.heap[L]? = some (.loop r) ∧ (pre ++ hOf ts who (leftOf es seen).toList).Perm (hOf ts who es.toList) from ⟨hit, HH.out _ _ hbi, hbi, hlp, hperm⟩)
    clear hit hbi hlp hperm
    gi_wp2_with (gi_at_next; refine wpListIn_next_raw _ rfl _ rfl HM W.heap.size es.size c0 seen es es.size rfl HK.out.1 HK.out.2.1 hnr H.out.2.1.hld.old hc0 H.out.2.1.hld.nd ?_ ?_)
    · intro h0
      gi_wp2
      go_ret
      refine ⟨rfl, pre, ?_, HK.out.2.2.1, HK.out.2.2.2.1⟩
      have he : (leftOf es seen).toList = [] := List.eq_nil_of_length_eq_zero (by simpa using h0)
      have hp := HK.out.2.2.2.2
      rw [he] at hp
      simpa [hOf] using hp
    · intro x w2 hx hr2 hch2 hsz2 hen
      have hx' := Array.mem_toList_iff.2 hx
      obtain ⟨hxe, hxs⟩ := mem_left hx'
      obtain ⟨i, hxk, hti, _⟩ := H.out.2.1.hld.keys x hxe
      have hiN := H.out.2.1.keyN x hxe i hxk
      have hix : ix ts x = i := ix_key H.out.1 hxk
      have hbi2 : BI w0 num pre w2 := HK.out.2.2.1.keep hch2 (fun b hb e => by omega) (fun b cur hb e => by
        subst e
        rw [HK.out.1] at hb
        cases hb)
      have hlp2 : w2.heap[L]? = some (.loop r) := hch2.keep HK.out.2.2.2.1 (by omega)
      have hsh := left_shrinks es seen x hx'
      have hlp' := left_perm es seen x hx' H.out.2.1.hld.nd
      have hkeep : ∀ {u : Nat}, Ty w0 u 48 7 → Pl w2 u := fun {u} ⟨cs, h1, _⟩ => ⟨cs, 48, (hbi2.below.block u (heap_lt h1)).trans h1⟩
      have hne : (binOp .neq 54 (.pointer (some ⟨lk i, 0, none⟩)) (.pointer (some ⟨lk who, 0, none⟩))).run Yba.prog w2 = .ok (.bool (!decide ((⟨lk i, 0, none⟩ : Addr) = ⟨lk who, 0, none⟩))) w2 := run_neq_ptr Yba.underlying54 H.out.2.2.2.2 hz48 (hkeep hti) (hkeep H.out.2.1.tw)
      have q0' : w2.cell? ⟨q, 0, none⟩ = some (.pointer (some ⟨lk who, 0, none⟩)) := (hbi2.below.cell (p := ⟨q, 0, none⟩) (Lib.lt_of_cell H.out.2.1.q0)).trans H.out.2.1.q0
      have hlkinj : lk i = lk who → i = who := fun e => by
        have h1 := H.out.1 i
        have h2 := H.out.1 who
        rw [e, h2] at h1
        omega
      have hxk' : x.key = .pointer (some ⟨lk i, 0, none⟩) := hxk
      rw [hxk'] at hen ⊢
      by_cases hw : i = who
      · have hd : decide ((⟨lk i, 0, none⟩ : Addr) = ⟨lk who, 0, none⟩) = true := by rw [hw]; simp
        rw [hd] at hne
        have HW := hide hw
        have hne2 : (binOp .neq 54 (.pointer (some ⟨lk i, 0, none⟩)) (.pointer (some ⟨lk who, 0, none⟩))).run Yba.prog w2 = .ok (.bool false) w2 := hne
        clear hne
        have HN : Hid (HLoop w0 num ts HM who L W.heap.size es r w2 ∧ (leftOf es (w2.iterSeen W.heap.size)).size < (leftOf es (wr.iterSeen W.heap.size)).size) :=
          ⟨⟨_, _, pre, hr2, Nat.le_refl _, hbi2, hlp2, by
            have h1 : (hOf ts who (leftOf es seen).toList).Perm (hOf ts who (x :: (leftOf es (seen.push x.born)).toList)) := (hlp'.map _).filter _
            have h2 : hOf ts who (x :: (leftOf es (seen.push x.born)).toList) = hOf ts who (leftOf es (seen.push x.born)).toList := by simp [hOf, hix, HW.out]
            rw [h2] at h1
            exact (h1.symm.append_left pre).trans HK.out.2.2.2.2⟩, by unfold World.iterSeen; rw [hr2, HK.out.1]; exact hsh⟩
        clear hx hx' hr2 hch2 hsz2 hsh hlp' hxe hxs hxk hxk' hti hbi2 hlp2 hkeep hd hw hlkinj hix
        gi_wp2
        refine ⟨fun _ h => (by cases h), ?_⟩
        gi_wp2
        go_roundw
        case rel => exact HN.out.1
        case measure => exact HN.out.2
      · have hd : decide ((⟨lk i, 0, none⟩ : Addr) = ⟨lk who, 0, none⟩) = false := decide_eq_false (fun e => hw (hlkinj (congrArg Addr.block e)))
        rw [hd] at hne
        have hlen : pre.length < 1000 := by
          have h1 := HK.out.2.2.2.2.length_eq
          rw [List.length_append] at h1
          have h2 : (hOf ts who es.toList).length ≤ es.size := by
            unfold hOf
            refine Nat.le_trans (List.length_filter_le _ _) ?_
            simp
          have := H.out.2.1.small
          omega
        obtain ⟨fn, tmps, assign, body, hy, hR⟩ := H.out.2.2.1 pre i w2 ⟨hiN, hlen⟩ ⟨hbi2, hlp2⟩ (n - 1)
        have HN : Hid (∀ W3, (BI w0 num (pre ++ [i]) W3 ∧ W3.heap[L]? = some (.loop r)) ∧ KeepT w2 W3 → HLoop w0 num ts HM who L W.heap.size es r W3 ∧ (leftOf es (W3.iterSeen W.heap.size)).size < (leftOf es (wr.iterSeen W.heap.size)).size) := fun W3 hk => by
          have hit3 := hk.2.same _ _ hr2 trivial
          refine ⟨⟨_, _, pre ++ [i], hit3, Nat.le_refl _, hk.1.1, hk.1.2, ?_⟩, by unfold World.iterSeen; rw [hit3, HK.out.1]; exact hsh⟩
          have h1 : (hOf ts who (leftOf es seen).toList).Perm (hOf ts who (x :: (leftOf es (seen.push x.born)).toList)) := (hlp'.map _).filter _
          have h2 : hOf ts who (x :: (leftOf es (seen.push x.born)).toList) = i :: hOf ts who (leftOf es (seen.push x.born)).toList := by simp [hOf, hix, hw]
          rw [h2] at h1
          rw [List.append_assoc]
          exact (h1.symm.append_left pre).trans HK.out.2.2.2.2
        have HR := hide hR
        clear hx hx' hr2 hch2 hsz2 hsh hlp' hxe hxs hxk hxk' hti hbi2 hlp2 hkeep hd hR
        gi_wp2
        refine ⟨fun h => (by cases h), HR.out.mono ?_⟩
        rintro e2 W3 ⟨rfl, hJ3⟩
        have H3 := hide hJ3
        clear hJ3
        gi_wp2
        go_roundw
        case rel => exact (HN.out _ H3.out).1
        case measure => exact (HN.out _ H3.out).2

end Go.Proofs.Ybulkadpy
