/-
  LawS1480BMatchesTable: the lockers laid.
-/
import Derived.Test.YbulkadpyAsk
import Derived.Test.YbulkadpyInv
namespace Go.Proofs.Ybulkadpy
open Go.RowKit
open Go.ChangeMaps (setBlock)

def lkC (Z : Nat) (num : Nat → Int) (j : Nat) : Array Value := #[.int .i64 (num j), .int .i64 j, .int .u8 0, .slice none 0 0, .slice none 0 0, .map (some (awB Z j)), .pointer none]

structure L1 (w wr : World) (n : Nat) (num : Nat → Int) (k : Nat) : Prop where
  below : Below w.heap.size w wr
  size : wr.heap.size = w.heap.size + 4 + 2 * k
  tR : Ty wr (w.heap.size + 3) 54 n
  ls : ∀ j, j < k → wr.cell? ⟨w.heap.size + 3, j, none⟩ = some (lp (lkB w.heap.size j))
  lks : ∀ j, j < k → wr.heap[lkB w.heap.size j]? = some (.cells (lkC w.heap.size num j) 48 (0, 0)) ∧ wr.heap[awB w.heap.size j]? = some (.map #[] 0)
  item : wr.heap[w.heap.size + 1]? = some (.cells (itemC (w.heap.size + 2) (.pointer none) false) 68 (0, 0))
  hm : wr.heap[w.heap.size + 2]? = some (.map #[] 0)

section
variable {w wr : World} {n : Nat} {num : Nat → Int} {k : Nat}

theorem L1.step (h : L1 w wr n num k) (hk : k < n) :
    L1 w (((wr.alloc (.map #[] 0)).alloc (.cells #[.int .i64 (num k), .int .i64 k, .int .u8 0, .slice none 0 0, .slice none 0 0, .map (some wr.heap.size), .pointer none] 48)).setCell ⟨w.heap.size + 3, k, none⟩ (.pointer (some ⟨wr.heap.size + 1, 0, none⟩))) n num (k + 1) := by
  obtain ⟨W, hW⟩ : ∃ W, ((wr.alloc (.map #[] 0)).alloc (.cells #[.int .i64 (num k), .int .i64 k, .int .u8 0, .slice none 0 0, .slice none 0 0, .map (some wr.heap.size), .pointer none] 48)) = W := ⟨_, rfl⟩
  rw [hW]
  have hc0 : Chg (fun _ => False) wr W := by rw [← hW]; exact ((Chg.refl _ _).alloc _).alloc _
  have hs : W.heap.size = wr.heap.size + 2 := by rw [← hW]; simp
  have hA : W.heap[wr.heap.size]? = some (.map #[] 0) := by rw [← hW]; exact ((Chg.refl (fun _ => False) _).alloc _).keep (heap_alloc_new wr _) (fun h => h)
  have hK : W.heap[wr.heap.size + 1]? = some (.cells #[.int .i64 (num k), .int .i64 k, .int .u8 0, .slice none 0 0, .slice none 0 0, .map (some wr.heap.size), .pointer none] 48 (0, 0)) := by
    rw [← hW]
    have := heap_alloc_new (wr.alloc (.map #[] 0)) (.cells #[.int .i64 (num k), .int .i64 k, .int .u8 0, .slice none 0 0, .slice none 0 0, .map (some wr.heap.size), .pointer none] 48)
    rw [World.size_alloc] at this
    exact this
  have hcx : Chg (fun b => b = w.heap.size + 3) W (W.setCell ⟨w.heap.size + 3, k, none⟩ (.pointer (some ⟨wr.heap.size + 1, 0, none⟩))) := (Chg.refl (fun b => b = w.heap.size + 3) _).setCell ⟨w.heap.size + 3, k, none⟩ rfl _
  have hcc : Chg (fun b => b = w.heap.size + 3) wr (W.setCell ⟨w.heap.size + 3, k, none⟩ (.pointer (some ⟨wr.heap.size + 1, 0, none⟩))) := (hc0.mono (fun _ _ h => h.elim)).trans hcx
  have hck : CChg (fun b j => b = w.heap.size + 3 ∧ j = k) wr (W.setCell ⟨w.heap.size + 3, k, none⟩ (.pointer (some ⟨wr.heap.size + 1, 0, none⟩))) := (hc0.cc.mono (fun _ _ _ h => h.elim)).setCell _ _ ⟨rfl, rfl⟩ _
  have hsz := h.size
  have elk : lkB w.heap.size k = wr.heap.size + 1 := by unfold lkB; omega
  have eaw : awB w.heap.size k = wr.heap.size := by unfold awB; omega
  refine ⟨h.below.trans (hcc.below h.below.size (fun b hb e => by omega)), ?_, h.tR.keep hck ⟨k + 1, fun e => by omega⟩, fun j hj => ?_, fun j hj => ?_, hcc.keep h.item (by omega), hcc.keep h.hm (by omega)⟩
  · show (W.heap.modify _ _).size = _
    simp [hs, hsz]
    omega
  · by_cases hjk : j = k
    · subst hjk
      obtain ⟨z, hz⟩ := h.tR.some j hk
      rw [elk]
      exact cell_set_same _ (hc0.cell hz)
    · exact h.tR.cell hck (fun e => hjk e.2) (h.ls j (by omega))
  · by_cases hjk : j = k
    · subst hjk
      rw [elk, eaw]
      refine ⟨?_, hcx.keep hA (by omega)⟩
      have e1 : lkC w.heap.size num j = #[.int .i64 (num j), .int .i64 j, .int .u8 0, .slice none 0 0, .slice none 0 0, .map (some wr.heap.size), .pointer none] := by unfold lkC; rw [eaw]
      rw [e1]
      exact hcx.keep hK (by omega)
    · obtain ⟨h1, h2⟩ := h.lks j (by omega)
      exact ⟨hcc.keep h1 (by unfold lkB; omega), hcc.keep h2 (by unfold awB; omega)⟩

theorem L1.done (h : L1 w wr n num n) (md : Int) : G w wr n num md [] none [] false [] (.slice none 0 0) := by
  have hI := h.item
  have hq : ∀ l, l ≤ 1 → QS wr (w.heap.size + 4) (w.heap.size + 1) l (lkB w.heap.size) [] (.slice none 0 0) 0 := fun l hl => by
    have : l = 0 ∨ l = 1 := by omega
    rcases this with rfl | rfl <;> exact ⟨cell_of hI rfl, cell_of hI rfl, cell_of hI rfl, cell_of hI rfl, World.ownsRow_nil _ _ _ _, .inl ⟨rfl, rfl⟩, fun i r h => by simp at h⟩
  refine ⟨h.below, h.tR, h.ls, fun j hj => ?_, ⟨_, hI, rfl⟩, cell_of hI rfl, cell_of hI rfl, cell_of hI rfl, ?_, fun _ j hj => (h.lks j hj).2, ⟨_, _, _, _, hq 0 (by omega), hq 1 (by omega), fun b hb => by cases hb⟩, fun x hx => by simp at hx, by simp, by simp, World.ownsRow_nil _ _ _ _, fun i hi => by simp at hi, by simp, fun x hx => by simp at hx⟩
  · have := (h.lks j hj).1
    exact ⟨⟨_, this, rfl⟩, cell_of this rfl, cell_of this rfl, cell_of this rfl⟩
  · rw [h.hm]; rfl

/-- The cells of 'ls', none of them filled. -/
def mkC (n : Nat) : Array Value := madeCells #[Value.pointer none] n

theorem L1.zero : L1 w ((((w.alloc (.map #[] 0)).alloc (.cells #[.map (some (w.heap.size + 1 + 1)), .pointer none, .slice none 0 0, .int .i64 0, .pointer none, .pointer none, .pointer none, .pointer none, .slice none 0 0, .int .i64 0, .slice none 0 0, .int .i64 0, .int .i64 0, .bool false] 68)).alloc (.map #[] 0)).alloc (.cells (mkC n) 54)) n num 0 := by
  have h5 := five w (.map #[] 0) (.cells (itemC (w.heap.size + 2) (.pointer none) false) 68) (.map #[] 0) (.cells (mkC n) 54) (.map #[] 0)
  have hlt : ∀ (o0 o1 o2 o3 o4 : Obj) (k : Nat), k < w.heap.size + 4 → ((((w.alloc o0).alloc o1).alloc o2).alloc o3).heap[k]? = (((((w.alloc o0).alloc o1).alloc o2).alloc o3).alloc o4).heap[k]? := fun o0 o1 o2 o3 o4 k hk => (Below.heap_alloc _ o4 k (by simp; omega)).symm
  have hc : Chg (fun _ => False) w ((((w.alloc (.map #[] 0)).alloc (.cells (itemC (w.heap.size + 2) (.pointer none) false) 68)).alloc (.map #[] 0)).alloc (.cells (mkC n) 54)) := ((((Chg.refl _ _).alloc _).alloc _).alloc _).alloc _
  show L1 w ((((w.alloc (.map #[] 0)).alloc (.cells (itemC (w.heap.size + 2) (.pointer none) false) 68)).alloc (.map #[] 0)).alloc (.cells (mkC n) 54)) n num 0
  refine ⟨hc.below (Nat.le_refl _) (fun _ _ h => h), by simp, ⟨_, (hlt _ _ _ _ _ _ (by omega)).trans h5.2.2.2.1, ?_⟩, fun j hj => by omega, fun j hj => by omega, (hlt _ _ _ _ _ _ (by omega)).trans h5.2.1, (hlt _ _ _ _ _ _ (by omega)).trans h5.2.2.1⟩
  unfold mkC
  have := congrArg List.length (madeCells_nil n)
  simpa using this
end

theorem run_ls (n : Nat) (hn : n ≤ 300) (W : World) : (Instr.makeSlice 59 (.int .i64 n) (.int .i64 n)).run Yba.prog W = .ok (.slice (some ⟨W.heap.size, 0, none⟩) n n) (W.alloc (.cells (mkC n) 54)) := by
  obtain ⟨i0, hi, hz0, hz1, hz2⟩ := info_parts Yba.info54
  have := run_makeSlice (P := Yba.prog) W 59 54 i0 (.pointer none) Yba.underlying59 hi hz0 .i64 .i64 n n (by omega) (by omega) (by rw [hz1]; simp; omega) (by rw [hz2]; omega) (by omega)
  rw [hz1] at this
  have e : ((n : Int).toNat * 1) = n := by simp
  rw [e, Int.toNat_natCast] at this
  exact this

theorem wpList_make_raw {P : Program} {w w' : World} {ops : Array Oper} {rest : List Oper} {o : Oper} {a : Act} {Q : Exit → Act → World → Prop} (hg : o.guard = none) (l c : Operand) (t : TypeId) (hop : o.op = Op.makeSlice t l c) (x y v : Value) (hl : a.eval l = x) (hc : a.eval c = y) (hrun : (Instr.makeSlice t x y).run P w = .ok v w')
    (hK : wpList P ops Q rest (a.put o.dst v) w') : wpList P ops Q (o :: rest) a w := by
  refine wpList_plain hg fun K hK' => ?_
  unfold Oper.wp
  simp [execOp, hop, hl, hc, hrun, Result.andThen]
  exact hK' _ _ hK

end Go.Proofs.Ybulkadpy
