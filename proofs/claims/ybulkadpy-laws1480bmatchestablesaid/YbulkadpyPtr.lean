/-
  NO PROGRAM: maps keyed by pointers, at the level of blocks; 'Chg': what a call may have turned.
-/
import Derived.WalkKit
import Derived.WalkSpells
import Derived.WalkLawsBesides
import Derived.LaidEqlPtr
import Derived.MapKept
import Derived.Maps.Own
import Derived.Maps.OwnSet
import Derived.Maps.RangeRun
import Derived.Maps.RangeWalk
import Derived.Lib.AtoiErrMem
namespace Go.Proofs.Ybulkadpy
open Go.RowKit
open Go.ChangeMaps (setBlock)

/-- Every block but those in S is as it was; new blocks may lie behind. -/
structure Chg (S : Nat → Prop) (w w' : World) : Prop where
  os : w'.os = w.os
  tape : w'.tape = w.tape
  output : w'.output = w.output
  size : w.heap.size ≤ w'.heap.size
  block : ∀ k, k < w.heap.size → ¬ S k → w'.heap[k]? = w.heap[k]?

theorem Chg.refl (S : Nat → Prop) (w : World) : Chg S w w := ⟨rfl, rfl, rfl, Nat.le_refl _, fun _ _ _ => rfl⟩
theorem Chg.trans {S : Nat → Prop} {a b c : World} (h : Chg S a b) (k : Chg S b c) : Chg S a c :=
  ⟨k.os.trans h.os, k.tape.trans h.tape, k.output.trans h.output, Nat.le_trans h.size k.size, fun i hi hs => (k.block i (Nat.lt_of_lt_of_le hi h.size) hs).trans (h.block i hi hs)⟩
theorem Chg.mono {S T : Nat → Prop} {w w' : World} (h : Chg S w w') (hst : ∀ k, k < w.heap.size → S k → T k) : Chg T w w' :=
  ⟨h.os, h.tape, h.output, h.size, fun k hk ht => h.block k hk (fun hs => ht (hst k hk hs))⟩
theorem Chg.drew {S : Nat → Prop} {a w : World} (h : Chg S a w) : Chg S a w.drew := ⟨h.os, h.tape, h.output, h.size, h.block⟩
theorem Chg.drewN {S : Nat → Prop} {a w : World} (h : Chg S a w) (n : Nat) : Chg S a (w.drewN n) := ⟨h.os, h.tape, h.output, h.size, h.block⟩
theorem Chg.alloc {S : Nat → Prop} {a w : World} (h : Chg S a w) (o : Obj) : Chg S a (w.alloc o) :=
  ⟨h.os, h.tape, h.output, Nat.le_trans h.size (by show w.heap.size ≤ (w.heap.push o).size; simp), fun k hk hs => by
    rw [Below.heap_alloc w o k (Nat.lt_of_lt_of_le hk h.size)]; exact h.block k hk hs⟩
theorem Chg.setCell {S : Nat → Prop} {a w : World} (h : Chg S a w) (p : Addr) (hp : S p.block) (u : Value) : Chg S a (w.setCell p u) :=
  ⟨h.os, h.tape, h.output, by simpa [World.setCell] using h.size, fun k hk hs => by
    rw [Below.heap_setCell w p u k (fun e => hs (e ▸ hp))]; exact h.block k hk hs⟩
theorem Chg.setBlock {S : Nat → Prop} {a w : World} (h : Chg S a w) {b : Nat} (hb : S b) (o : Obj) : Chg S a (setBlock w b o) :=
  ⟨h.os, h.tape, h.output, by simpa [ChangeMaps.setBlock] using h.size, fun k hk hs => by
    have hne : k ≠ b := fun e => hs (e ▸ hb)
    show (w.heap.setIfInBounds b o)[k]? = _
    rw [Array.getElem?_setIfInBounds_ne (Ne.symm hne)]
    exact h.block k hk hs⟩
theorem Chg.grown {S : Nat → Prop} {a w w' : World} {row : Option Nat} (h : Chg S a w) (hg : w.grownBy w' row) (hr : ∀ k, row = some k → k < a.heap.size → S k) : Chg S a w' :=
  ⟨hg.os.trans h.os, hg.tape.trans h.tape, hg.output.trans h.output, Nat.le_trans h.size hg.size, fun k hk hs => by
    rw [hg.block k (Nat.lt_of_lt_of_le hk h.size) (fun e => hs (hr k e.symm hk))]; exact h.block k hk hs⟩
theorem Chg.below {S : Nat → Prop} {w w' : World} {B : Nat} (h : Chg S w w') (hB : B ≤ w.heap.size) (hs : ∀ k, k < B → ¬ S k) : Below B w w' :=
  ⟨h.os, h.tape, h.output, h.size, fun k hk => h.block k (Nat.lt_of_lt_of_le hk hB) (hs k hk)⟩

theorem heap_lt {w : World} {b : Nat} {o : Obj} (h : w.heap[b]? = some o) : b < w.heap.size := by
  rcases Nat.lt_or_ge b w.heap.size with h' | h'
  · exact h'
  · rw [Array.getElem?_eq_none h'] at h; cases h

theorem Chg.keep {S : Nat → Prop} {w w' : World} {b : Nat} {o : Obj} (h : Chg S w w') (hb : w.heap[b]? = some o) (hs : ¬ S b) : w'.heap[b]? = some o :=
  (h.block b (heap_lt hb) hs).trans hb

theorem cell_of {w : World} {b o : Nat} {cs : Array Value} {t : TypeId} {fr : Nat × Nat} {v : Value} (h : w.heap[b]? = some (.cells cs t fr)) (hv : cs[o]? = some v) : w.cell? ⟨b, o, none⟩ = some v := by
  simp [World.cell?, h, hv]
theorem frozen_of {w : World} {b o : Nat} {cs : Array Value} {t : TypeId} (h : w.heap[b]? = some (.cells cs t (0, 0))) : w.frozen? ⟨b, o, none⟩ = false := by
  simp [World.frozen?, h]
theorem heap_setCell_same {w : World} {b o : Nat} {cs : Array Value} {t : TypeId} {fr : Nat × Nat} (h : w.heap[b]? = some (.cells cs t fr)) (v : Value) : (w.setCell ⟨b, o, none⟩ v).heap[b]? = some (.cells (cs.setIfInBounds o v) t fr) := by
  show (w.heap.modify b _)[b]? = _
  rw [Array.getElem?_modify, if_pos rfl, h]
  rfl
theorem heap_setBlock {w : World} {b : Nat} {o : Obj} (h : w.heap[b]? = some o) (o' : Obj) : (setBlock w b o').heap[b]? = some o' := by
  show (w.heap.setIfInBounds b o')[b]? = _
  simp [heap_lt h]
theorem heap_setBlock_ne {w : World} {b k : Nat} (o' : Obj) (hne : k ≠ b) : (setBlock w b o').heap[k]? = w.heap[k]? := by
  show (w.heap.setIfInBounds b o')[k]? = _
  rw [Array.getElem?_setIfInBounds_ne (Ne.symm hne)]

/-- A block of plain cells, nothing frozen in it. -/
def Pl (w : World) (b : Nat) : Prop := ∃ c t, w.heap[b]? = some (.cells c t (0, 0))

/-- The search among keys that are pointers. -/
def pfind (a : Addr) : List MapEntry → Nat → Option (Nat × Value)
  | [], _ => none
  | e :: es, i => match e.key with
    | .pointer (some b) => if a = b then some (i, e.val) else pfind a es (i + 1)
    | _ => pfind a es (i + 1)

section
variable {P : Program} {w : World} {kt te : TypeId} {j : TypeInfo}

theorem run_equal_ptr (hk : P.underlying kt = some (.pointer te)) (hte : P.info? te = some j) (hsz : j.size ≠ 0) {a b : Addr} (ha : Pl w a.block) (hb : Pl w b.block) :
    (Op.equal kt (.pointer (some a)) (.pointer (some b))).run P w = .ok (decide (a = b)) w := by
  obtain ⟨ca, ta, ha⟩ := ha
  obtain ⟨cb, tb, hb⟩ := hb
  have h0 : ∀ d : Nat, (Op.equalIn (d + 1) kt (.pointer (some a)) (.pointer (some b))).run P w = .ok (decide (a = b)) w := fun d => by
    by_cases h : a = b
    · subst h
      simp [Op.equalIn, run_underlying hk, sizeOf, typeInfo, hte, run_sameAddr_same]
    · simp [Op.equalIn, run_underlying hk, sizeOf, typeInfo, hte, hsz, run_sameAddr_other w h ha hb, h]
  exact h0 9999

theorem run_findAsking_ptr (hk : P.underlying kt = some (.pointer te)) (hte : P.info? te = some j) (hsz : j.size ≠ 0) {a : Addr} (ha : Pl w a.block) :
    ∀ (es : List MapEntry) (i : Nat), (∀ e ∈ es, ∃ b, e.key = .pointer (some b) ∧ Pl w b.block) → (Instr.findAsking kt (.pointer (some a)) es i).run P w = .ok (pfind a es i) w
  | [], i, _ => rfl
  | e :: es, i, h => by
    obtain ⟨b, hb, hpl⟩ := h e (List.mem_cons_self ..)
    have ih := run_findAsking_ptr hk hte hsz ha es (i + 1) (fun x hx => h x (List.mem_cons_of_mem _ hx))
    have he := run_equal_ptr hk hte hsz ha hpl
    unfold Instr.findAsking pfind
    rw [hb]
    rw [Sem.run_bind, he]
    by_cases hab : a = b
    · rw [decide_eq_true hab]
      show _ = Result.ok (if a = b then some (i, e.val) else pfind a es (i + 1)) w
      rw [if_pos hab]; rfl
    · rw [decide_eq_false hab]
      show _ = Result.ok (if a = b then some (i, e.val) else pfind a es (i + 1)) w
      rw [if_neg hab]; exact ih

theorem findNow_ptr {te : TypeId} (a : Addr) (e : MapEntry) (es : List MapEntry) (i : Nat) : Instr.findNow (.pointer te) (.pointer (some a)) (e :: es) i = none := by
  simp [Instr.findNow, Instr.sameNow]

theorem run_findKey_ptr (hk : P.underlying kt = some (.pointer te)) (hte : P.info? te = some j) (hsz : j.size ≠ 0) {a : Addr} (ha : Pl w a.block) (es : List MapEntry) (h : ∀ e ∈ es, ∃ b, e.key = .pointer (some b) ∧ Pl w b.block) :
    (Instr.findKey kt (.pointer (some a)) es).run P w = .ok (pfind a es 0) w := by
  cases es with
  | nil => simp [Instr.findKey, run_underlying hk, Instr.findNow, pfind]
  | cons e es =>
    simp [Instr.findKey, run_underlying hk, findNow_ptr a e es 0, run_findAsking_ptr hk hte hsz ha (e :: es) 0 h]

theorem run_checkKey_ptr (hk : P.underlying kt = some (.pointer te)) (e : Bool) (p : Option Addr) : (Instr.checkKey e 10000 kt (.pointer p)).run P w = .ok () w := by
  have h0 : ∀ d : Nat, (Instr.checkKey e (d + 1) kt (.pointer p)).run P w = .ok () w := fun d => by simp [Instr.checkKey, run_underlying hk]
  exact h0 9999

/-- 'm[p] = v' AT A KEY THAT IS NOT THERE. -/
theorem run_update_ptr {t et : TypeId} (ht : P.underlying t = some (.map kt et)) (hk : P.underlying kt = some (.pointer te)) (hte : P.info? te = some j) (hsz : j.size ≠ 0) {r : Nat} {es : Array MapEntry} {clock : Nat} {a : Addr} (ha : Pl w a.block)
    (hr : w.heap[r]? = some (.map es clock)) (h : ∀ e ∈ es.toList, ∃ b, e.key = .pointer (some b) ∧ Pl w b.block) (hn : pfind a es.toList 0 = none) (v : Value) :
    (Instr.mapUpdate t (.map (some r)) (.pointer (some a)) v).run P w = .ok () (setBlock w r (.map (es.push { key := .pointer (some a), val := v, born := clock }) (clock + 1))) := by
  have hs := MapKept.run_setObj_map (P := P) (.map (es.push { key := .pointer (some a), val := v, born := clock }) (clock + 1)) hr
  simp [Instr.mapUpdate, run_underlying ht, MapKept.run_getObj_map hr, run_checkKey_ptr hk, run_findKey_ptr hk hte hsz ha es.toList h, hn]
  exact hs

/-- 'v, ok := m[p]' AT A KEY THAT IS NOT THERE. -/
theorem run_lookup_none {t et : TypeId} {z : Value} (ht : P.underlying t = some (.map kt et)) (hz : (zeroValue et).run P w = .ok z w) (hk : P.underlying kt = some (.pointer te)) (hte : P.info? te = some j) (hsz : j.size ≠ 0) {r : Nat} {es : Array MapEntry} {clock : Nat} {a : Addr} (ha : Pl w a.block)
    (hr : w.heap[r]? = some (.map es clock)) (h : ∀ e ∈ es.toList, ∃ b, e.key = .pointer (some b) ∧ Pl w b.block) (hn : pfind a es.toList 0 = none) :
    (Instr.lookup t (.map (some r)) (.pointer (some a)) true).run P w = .ok (.tuple #[z, .bool false]) w := by
  simp [Instr.lookup, run_underlying ht, MapKept.run_getObj_map hr, run_checkKey_ptr hk, run_findKey_ptr hk hte hsz ha es.toList h, hn, hz]

/-- 'delete(m, p)'. -/
theorem run_delete_ptr {t et kt2 : TypeId} (ty : TypeId) (ht : P.underlying t = some (.map kt et)) (hk : P.underlying kt = some (.pointer te)) (hte : P.info? te = some j) (hsz : j.size ≠ 0) {r : Nat} {es : Array MapEntry} {clock : Nat} {a : Addr} (ha : Pl w a.block)
    (hr : w.heap[r]? = some (.map es clock)) (h : ∀ e ∈ es.toList, ∃ b, e.key = .pointer (some b) ∧ Pl w b.block) (i : Nat) (v : Value) (hn : pfind a es.toList 0 = some (i, v)) :
    (Builtin.delete_ #[t, kt2] ty #[.map (some r), .pointer (some a)]).run P w = .ok (.tuple #[]) (setBlock w r (.map (es.eraseIdxIfInBounds i) clock)) := by
  have hs := MapKept.run_setObj_map (P := P) (.map (es.eraseIdxIfInBounds i) clock) hr
  simp [Builtin.delete_, run_underlying ht, MapKept.run_getObj_map hr, run_checkKey_ptr hk, run_findKey_ptr hk hte hsz ha es.toList h, hn, hs, setBlock]

/-- 'delete(m, p)' on a nil map. -/
theorem run_delete_nil {t et kt2 : TypeId} (ty : TypeId) (ht : P.underlying t = some (.map kt et)) (hk : P.underlying kt = some (.pointer te)) (p : Option Addr) :
    (Builtin.delete_ #[t, kt2] ty #[.map none, .pointer p]).run P w = .ok (.tuple #[]) w := by
  simp [Builtin.delete_, run_underlying ht, run_checkKey_ptr hk]

theorem run_len_map {t et : TypeId} (ty : TypeId) (ht : P.underlying t = some (.map kt et)) {r : Nat} {es : Array MapEntry} {clock : Nat} (hr : w.heap[r]? = some (.map es clock)) :
    (Builtin.len_ #[t] ty #[.map (some r)]).run P w = .ok (.int .i64 es.size) w := by
  simp [Builtin.len_, run_underlying ht, MapKept.run_getObj_map hr, goInt]

end

section
variable {P : Program} (w : World) {ops : Array Oper} {rest : List Oper} {o : Oper} {a : Act} {Q : Exit → Act → World → Prop}

/-- 'range m': the iterator's block is new. -/
theorem wpList_range_raw (hg : o.guard = none) (m : Operand) (t k e : TypeId) (hop : o.op = Op.range t m) (ht : P.underlying t = some (.map k e)) (b : Nat) (es : Array MapEntry) (c : Nat)
    (hm : a.eval m = .map (some b)) (hb : w.heap[b]? = some (.map es c))
    (hK : ∀ w1, w1.heap[w.heap.size]? = some (.mapIter (some b) c #[] c) → Chg (fun _ => False) w w1 → w1.heap.size = w.heap.size + 1 → wpList P ops Q rest (a.put o.dst (.pointer (some ⟨w.heap.size, 0, none⟩))) w1) :
    wpList P ops Q (o :: rest) a w := by
  refine wpList_plain hg fun K' hK' => ?_
  have hrun := run_range_map (P := P) w t k e b es c ht hb
  unfold Oper.wp
  simp [execOp, hop, hm, hrun, Result.andThen]
  exact hK' _ _ (hK _ (heap_alloc_new _ _) ((Chg.refl _ _).alloc _) (by show (w.heap.push _).size = _; simp))

/-- 'next': nothing is left; or one entry comes, whichever. -/
theorem wpList_next_raw (hg : o.guard = none) (it : Operand) (hop : o.op = Op.next it false) (b r since c0 : Nat) (seen : Array Nat) (es : Array MapEntry) (c : Nat)
    (hit : a.eval it = .pointer (some ⟨r, 0, none⟩)) (hr : w.heap[r]? = some (.mapIter (some b) since seen c0)) (hb : w.heap[b]? = some (.map es c)) (hne : b ≠ r) (hold : ∀ x ∈ es.toList, x.born < since) (hsc : since ≤ c0) (hnd : (es.toList.map (·.born)).Nodup)
    (hDone : (leftOf es seen).size = 0 → wpList P ops Q rest (a.put o.dst (.tuple #[.bool false])) w)
    (hMore : ∀ (x : MapEntry) (w1 : World), x ∈ (leftOf es seen).toList → w1.heap[r]? = some (.mapIter (some b) since (seen.push x.born) c) → Chg (fun k => k = r) w w1 → w1.heap.size = w.heap.size →
      (Instr.entry (.pointer (some ⟨r, 0, none⟩))).run P w1 = .ok (.tuple #[x.key, x.val]) w1 → wpList P ops Q rest (a.put o.dst (.tuple #[.bool true, x.key, x.val])) w1) :
    wpList P ops Q (o :: rest) a w := by
  refine wpList_plain hg fun K' hK' => ?_
  unfold Oper.wp
  rcases run_next_at (P := P) w o.type r b since c0 seen es c hr hb hold hsc with ⟨h0, hrun⟩ | ⟨x, hx, w1, hw1, hrun⟩
  · simp [execOp, hop, hit, hrun, Result.andThen]
    exact hK' _ _ (hDone h0)
  · have hr1 : w1.heap[r]? = some (.mapIter (some b) since seen c0) := by rcases hw1 with rfl | rfl <;> exact hr
    have hb1 : w1.heap[b]? = some (.map es c) := by rcases hw1 with rfl | rfl <;> exact hb
    have hs1 : w1.heap.size = w.heap.size := by rcases hw1 with rfl | rfl <;> rfl
    have hc1 : Chg (fun k => k = r) w w1 := by rcases hw1 with rfl | rfl <;> first | exact Chg.refl _ _ | exact (Chg.refl _ _).drew
    have hr2 := heap_setBlock hr1 (.mapIter (some b) since (seen.push x.born) c)
    have hb2 : (setBlock w1 r (.mapIter (some b) since (seen.push x.born) c)).heap[b]? = some (.map es c) := (heap_setBlock_ne _ hne).trans hb1
    simp [execOp, hop, hit, hrun, Result.andThen]
    exact hK' _ _ (hMore x _ hx hr2 (hc1.setBlock rfl _) (by show (w1.heap.setIfInBounds _ _).size = _; simp [hs1])
      (run_entry_at (P := P) _ r b since seen es c x hr2 hb2 (mem_left hx).1 hnd))

/-- 'delete(m, p)' at a key that is there. -/
theorem wpList_delete_raw (hg : o.guard = none) (m x : Operand) (t kt et te : TypeId) (j : TypeInfo) (hop : o.op = Op.call { callee := Callee.builtin Builtin.delete, args := #[m, x], argTypes := #[t, kt] })
    (ht : P.underlying t = some (.map kt et)) (hk : P.underlying kt = some (.pointer te)) (hte : P.info? te = some j) (hsz : j.size ≠ 0) (r : Nat) (es : Array MapEntry) (c : Nat) (p : Addr)
    (hm : a.eval m = .map (some r)) (hx : a.eval x = .pointer (some p)) (ha : Pl w p.block) (hr : w.heap[r]? = some (.map es c)) (h : ∀ e ∈ es.toList, ∃ b, e.key = .pointer (some b) ∧ Pl w b.block) (i : Nat) (v : Value) (hn : pfind p es.toList 0 = some (i, v))
    (hK : ∀ w1, w1.heap[r]? = some (.map (es.eraseIdxIfInBounds i) c) → Chg (fun k => k = r) w w1 → w1.heap.size = w.heap.size → wpList P ops Q rest (a.put o.dst (.tuple #[])) w1) :
    wpList P ops Q (o :: rest) a w := by
  refine wpList_plain hg fun K' hK' => ?_
  have hrun := run_delete_ptr (kt2 := kt) o.type ht hk hte hsz ha hr h i v hn
  unfold Oper.wp
  simp [execOp, hop, resolve, invoke, builtin, hm, hx, hrun, Result.andThen]
  exact hK' _ _ (hK _ (heap_setBlock hr _) ((Chg.refl (fun k => k = r) _).setBlock rfl _) (by show (w.heap.setIfInBounds _ _).size = _; simp))

/-- 'delete(m, p)' on a nil map. -/
theorem wpList_delete_none (hg : o.guard = none) (m x : Operand) (t kt et te : TypeId) (hop : o.op = Op.call { callee := Callee.builtin Builtin.delete, args := #[m, x], argTypes := #[t, kt] })
    (ht : P.underlying t = some (.map kt et)) (hk : P.underlying kt = some (.pointer te)) (p : Option Addr)
    (hm : a.eval m = .map none) (hx : a.eval x = .pointer p)
    (hK : wpList P ops Q rest (a.put o.dst (.tuple #[])) w) :
    wpList P ops Q (o :: rest) a w := by
  refine wpList_plain hg fun K' hK' => ?_
  have hrun := run_delete_nil (P := P) (w := w) (kt2 := kt) o.type ht hk p
  unfold Oper.wp
  simp [execOp, hop, resolve, invoke, builtin, hm, hx, hrun, Result.andThen]
  exact hK' _ _ hK

/-- 'm[p] = v' at a key that is not there. -/
theorem wpList_update_raw (hg : o.guard = none) (m x y : Operand) (t kt et te : TypeId) (j : TypeInfo) (hop : o.op = Op.mapUpdate t m x y)
    (ht : P.underlying t = some (.map kt et)) (hk : P.underlying kt = some (.pointer te)) (hte : P.info? te = some j) (hsz : j.size ≠ 0) (r : Nat) (es : Array MapEntry) (c : Nat) (p : Addr) (v : Value)
    (hm : a.eval m = .map (some r)) (hx : a.eval x = .pointer (some p)) (hy : a.eval y = v) (ha : Pl w p.block) (hr : w.heap[r]? = some (.map es c)) (h : ∀ e ∈ es.toList, ∃ b, e.key = .pointer (some b) ∧ Pl w b.block) (hn : pfind p es.toList 0 = none)
    (hK : ∀ w1, w1.heap[r]? = some (.map (es.push { key := .pointer (some p), val := v, born := c }) (c + 1)) → Chg (fun k => k = r) w w1 → w1.heap.size = w.heap.size → wpList P ops Q rest (a.put o.dst undef) w1) :
    wpList P ops Q (o :: rest) a w := by
  refine wpList_plain hg fun K' hK' => ?_
  have hrun := run_update_ptr ht hk hte hsz ha hr h hn v
  unfold Oper.wp
  simp [execOp, hop, hm, hx, hy, hrun, Result.andThen]
  exact hK' _ _ (hK _ (heap_setBlock hr _) ((Chg.refl (fun k => k = r) _).setBlock rfl _) (by show (w.heap.setIfInBounds _ _).size = _; simp))

end
end Go.Proofs.Ybulkadpy
