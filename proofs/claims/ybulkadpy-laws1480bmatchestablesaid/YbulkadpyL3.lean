/-
  LawS1480BMatchesTable: the steps of the law's own loops.
-/
import Derived.Test.YbulkadpyL1
namespace Go.Proofs.Ybulkadpy
open Go.RowKit
open Go.ChangeMaps (setBlock)

theorem pfind_none (p : Addr) : ∀ (l : List MapEntry) (i : Nat), (∀ e ∈ l, e.key ≠ .pointer (some p)) → pfind p l i = none
  | [], _, _ => rfl
  | e :: l, i, h => by
    have h1 := h e (List.mem_cons_self ..)
    have h2 := pfind_none p l (i + 1) (fun x hx => h x (List.mem_cons_of_mem _ hx))
    unfold pfind
    split
    · rename_i b hb
      rw [if_neg (fun e2 => h1 (by rw [hb, e2]))]
      exact h2
    · exact h2

section
variable {w wr : World} {n : Nat} {num : Nat → Int} {md : Int} {hs : List Nat} {ex : Option Nat} {Q : List Req} {a : Bool} {wl : List Nat} {vw : Value}

theorem G.upd (h : G w wr n num md hs ex Q a wl vw) (i : Nat) (hi : i < n) (hni : i ∉ hs) :
    (Instr.mapUpdate 58 (.map (some (w.heap.size + 1 + 1))) (.pointer (some ⟨lkB w.heap.size i, 0, none⟩)) (.int .u8 md)).run Yba.prog wr = .ok () (setBlock wr (w.heap.size + 1 + 1) (.map ((esB w.heap.size md hs).push { key := .pointer (some ⟨lkB w.heap.size i, 0, none⟩), val := .int .u8 md, born := hs.length }) (hs.length + 1))) ∧
      G w (setBlock wr (w.heap.size + 1 + 1) (.map ((esB w.heap.size md hs).push { key := .pointer (some ⟨lkB w.heap.size i, 0, none⟩), val := .int .u8 md, born := hs.length }) (hs.length + 1))) n num md (hs ++ [i]) ex Q a wl vw := by
  obtain ⟨j48, hj48, hz48⟩ := info_of Yba.info48 (by decide)
  refine ⟨run_update_ptr Yba.underlying58 Yba.underlying54 hj48 hz48 (h.lks i hi).1.pl h.hm (fun e he => ?_) (pfind_none _ _ _ (fun e he e2 => ?_)) _, ?_⟩
  · obtain ⟨j, k, hk, rfl⟩ := esB_mem he
    exact ⟨_, rfl, (h.lks j (h.hsn j (List.mem_iff_getElem?.2 ⟨k, hk⟩))).1.pl⟩
  · obtain ⟨j, k, hk, rfl⟩ := esB_mem he
    have e3 : lkB w.heap.size j = lkB w.heap.size i := by simpa [lp] using e2
    have e4 : j = i := by unfold lkB at e3; omega
    exact hni (by rw [← e4]; exact List.mem_iff_getElem?.2 ⟨k, hk⟩)
  · exact h.hold i hi hni (heap_setBlock h.hm _) ((Chg.refl (fun b => b = w.heap.size + 2) _).setBlock rfl _)

/-- The facts that an append to 'want' asks. -/
theorem G.app {i0 : TypeInfo} (hi0 : Yba.prog.info? 3 = some i0 ∧ i0.zero = some (.int .i64 0) ∧ i0.size = 1 ∧ i0.bytes = 8) (h : G w wr n num md hs ex Q a wl vw) (hl : wl.length ≤ 1000) (i : Nat) :
    ∃ g cap w1, (Builtin.append_ #[74, 74] 74 #[vw, .slice (some ⟨wr.heap.size, 0, none⟩) 1 1]).run Yba.prog (wr.alloc (.cells #[.int .i64 (num i)] 3)) = .ok (.slice (some ⟨g, 0, none⟩) (wl.length + 1) cap) w1 ∧ G w w1 n num md hs ex Q a (wl ++ [i]) (.slice (some ⟨g, 0, none⟩) (wl.length + 1) cap) := by
  obtain ⟨g, cap, w1, hrun, hown, hgrow, _, _⟩ := run_append_lies (P := Yba.prog) (wr.alloc (.cells #[.int .i64 (num i)] 3)) 74 74 (w.heap.size + 4) 3 i0 (.int .i64 0) 1 8 Yba.underlying74 hi0.1 hi0.2.1 hi0.2.2.1 hi0.2.2.2 rfl (by decide) vw wl.length _ (h.row.alloc _) ⟨wr.heap.size, 0, none⟩ 1 1 [.int .i64 (num i)] rfl (lit_int wr _ _) (by intro u hu; simp at hu; subst hu; rfl) (by omega) (by unfold maxLen; omega) (by omega) (by have := h.tR.lt; simp; omega) (wr.heap.size + 1) (by simp)
  exact ⟨g, cap, w1, hrun, h.want i hown (((Chg.refl _ wr).alloc _).grown hgrow (fun k hk _ => hk))⟩
end

theorem wpList_append_raw {P : Program} {w w' : World} {ops : Array Oper} {rest : List Oper} {o : Oper} {a : Act} {Q : Exit → Act → World → Prop} (hg : o.guard = none) (s x : Operand) (t : TypeId) (ho : o.op = .call { callee := .builtin .append, args := #[s, x], argTypes := #[t, t] }) (v y v' : Value) (hs : a.eval s = v) (hx : a.eval x = y) (hrun : (Builtin.append_ #[t, t] o.type #[v, y]).run P w = .ok v' w')
    (hK : wpList P ops Q rest (a.put o.dst v') w') : wpList P ops Q (o :: rest) a w := by
  refine wpList_plain hg fun K hK' => ?_
  unfold Oper.wp execOp
  simp only [ho, resolve, invoke, builtin, Sem.run_bind, Sem.run_pure, Result.andThen_ok, List.map_toArray, List.map_cons, List.map_nil, hs, hx, hrun]
  exact hK' _ _ hK

/-- The holders that are wanted. -/
def hwB (qx : Bool) (ex : Option Nat) (hs : List Nat) (who : Nat) : List Nat := if qx then hs.filter fun i => decide (i ≠ who) else ex.toList

/-- What stands when the holders are laid, up to i. -/
def I3 (w : World) (n : Nat) (num : Nat → Int) (qx : Bool) (who : Nat) (vi vv : Value) (wr : World) : Prop :=
  ∃ (i : Nat) (hs : List Nat), i ≤ n ∧ vi = .int .i64 i ∧ (∀ x ∈ hs, x < i) ∧ hs.length ≤ i ∧ ∃ wl ao len cap, wl = hwB qx none hs who ∧ wl.length ≤ i ∧ vv = .slice ao len cap ∧ G w wr n num 1 hs none [] false wl vv

/-- What stands when the holders are laid. -/
def I4 (w : World) (n : Nat) (num : Nat → Int) (qx : Bool) (who : Nat) (vv : Value) (wr : World) : Prop :=
  ∃ md hs ex wl ao len cap, vv = .slice ao len cap ∧ wl = hwB qx ex hs who ∧ wl.length ≤ 300 ∧ hs.length ≤ 300 ∧ (∀ e, ex = some e → e < n) ∧ G w wr n num md hs ex [] false wl vv

/-- What stands when the requests wait, up to i. -/
def I5 (w : World) (n : Nat) (num : Nat → Int) (qx : Bool) (who : Nat) (vv vi : Value) (wr : World) : Prop :=
  ∃ (i : Nat) (md : Int) (hs : List Nat) (ex : Option Nat) (Q : List Req) (a : Bool) (wl : List Nat) (ao : Option Addr) (len cap : Nat), i ≤ n ∧ vi = .int .i64 i ∧ vv = .slice ao len cap ∧ wl = hwB qx ex hs who ++ (if qx then Q else Q.filter isX).map Req.u ∧ (hwB qx ex hs who).length ≤ 300 ∧ hs.length ≤ 300 ∧ (∀ e, ex = some e → e < n) ∧
    Q.length ≤ i ∧ (∀ x ∈ Q, x.u < i) ∧ G w wr n num md hs ex Q a wl vv

theorem I3.out {w : World} {n : Nat} {num : Nat → Int} {qx : Bool} {who : Nat} {vi vv : Value} {wr : World} (hn : n ≤ 300) (h : I3 w n num qx who vi vv wr) : I4 w n num qx who vv wr := by
  obtain ⟨i, hs, h1, h2, h3, h4, wl, ao, len, cap, h5, h6, h7, h8⟩ := h
  exact ⟨1, hs, none, wl, ao, len, cap, h7, h5, by omega, by omega, (fun e he => (by cases he)), h8⟩

theorem I4.in5 {w : World} {n : Nat} {num : Nat → Int} {qx : Bool} {who : Nat} {vv : Value} {wr : World} (h : I4 w n num qx who vv wr) : I5 w n num qx who vv (.int .i64 0) wr := by
  obtain ⟨md, hs, ex, wl, ao, len, cap, h1, h2, h3, h4, h5, h6⟩ := h
  exact ⟨0, md, hs, ex, [], false, wl, ao, len, cap, Nat.zero_le _, rfl, h1, by rw [h2]; simp, by rw [← h2]; exact h3, h4, h5, by simp, by simp, h6⟩

end Go.Proofs.Ybulkadpy
