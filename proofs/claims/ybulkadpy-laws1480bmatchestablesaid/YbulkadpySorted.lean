/-
  slices.Sort, Compact, Equal at []int, said over a slice of integers.
-/
import Derived.Test.YbulkadpyCell
import Derived.Lib.RowBridge
namespace Go.Proofs.Ybulkadpy
open Go.RowKit Go.Sort

/-- v is a slice of the integers zs, its block at or beyond base. -/
def Ints (W : World) (base : Nat) (v : Value) (zs : List Int) : Prop :=
  ∃ ao cap, v = .slice ao zs.length cap ∧ zs.length ≤ cap ∧ (zs = [] ∨ ∃ b, ao = some ⟨b, 0, none⟩ ∧ base ≤ b ∧ b < W.heap.size ∧ Holds (Value.int .i64) W b 0 zs.toArray)

theorem Ints.of_row {W : World} {base : Nat} {v : Value} {zs : List Int} (h : W.ownsRow base 3 1 v zs.length (zs.map (Value.int .i64))) : Ints W base v zs := by
  obtain ⟨_, ⟨rfl, h2⟩ | ⟨g, cap, cur, rfl, hb, hg, hc, _, _, ht⟩⟩ := h
  · exact ⟨none, 0, by rw [h2], by omega, .inl (List.eq_nil_of_length_eq_zero h2)⟩
  · refine ⟨_, cap, rfl, hc, .inr ⟨g, rfl, hb, heap_lt hg, fun j hj => ⟨cell_of hg ?_, frozen_of hg⟩⟩⟩
    have hj' : j < zs.length := by simpa using hj
    have hx : (zs.map (Value.int .i64))[j]? = some (.int .i64 zs[j]) := by simp [hj']
    rw [← ht, List.getElem?_take, if_pos (by omega)] at hx
    have : zs.toArray[j]! = zs[j] := by simp [hj']
    rw [this]
    simpa using hx

theorem chg_putRow {α : Type} [Inhabited α] (enc : α → Value) (w : World) (n blk off : Nat) (d : Array α) (os : Array Obj) : Chg (fun b => b = blk) w (grow (putRow enc (Sort.ahead w n) blk off d) os) := by
  refine ⟨rfl, rfl, rfl, ?_, fun k hk hs => ?_⟩
  · have : (putRow enc (Sort.ahead w n) blk off d).heap.size = w.heap.size := by rw [size_putRow]; rfl
    show w.heap.size ≤ ((putRow enc (Sort.ahead w n) blk off d).heap ++ os).size
    rw [Array.size_append, this]
    omega
  · show ((putRow enc (Sort.ahead w n) blk off d).heap ++ os)[k]? = _
    have hsz : (putRow enc (Sort.ahead w n) blk off d).heap.size = w.heap.size := by rw [size_putRow]; rfl
    rw [Array.getElem?_append_left (by rw [hsz]; exact hk)]
    show ((Sort.ahead w n).heap.modify blk _)[k]? = _
    rw [Array.getElem?_modify, if_neg (fun e => hs e.symm)]
    rfl

theorem grow_nil (w : World) : grow w #[] = w := by
  cases w
  simp [grow]

theorem sort_c (W : World) (base : Nat) (v : Value) (zs : List Int) (hz : zs.length ≤ 1000) (h : Ints W base v zs) :
    Calls Yba.prog 9 #[v] W fun e W' => e = .returned (.tuple #[]) ∧ Ints W' base v (zs.mergeSort fun x y => decide (x ≤ y)) ∧ Chg (fun b => v.ownBlock = some b) W W' := by
  obtain ⟨ao, cap, rfl, hc, h | ⟨b, rfl, hb, hlt, hH⟩⟩ := h
  · subst h
    exact (Yba.slices_Sort_int_none ao cap W).mono fun e W' ⟨he, hw⟩ => ⟨he, by rw [List.mergeSort_nil]; exact ⟨ao, cap, rfl, hc, .inl rfl⟩, by rw [hw]; exact Chg.refl _ _⟩
  · refine (Yba.slices_Sort_int b 0 cap zs W hH hlt (by omega)).mono ?_
    rintro e W' ⟨he, n, os, rfl⟩
    have hl : (zs.mergeSort fun x y => decide (x ≤ y)).length = zs.length := List.length_mergeSort _
    have hH2 : Holds (Value.int .i64) (putRow (Value.int .i64) (Sort.ahead W n) b 0 (zs.mergeSort fun x y => decide (x ≤ y)).toArray) b 0 (zs.mergeSort fun x y => decide (x ≤ y)).toArray := holds_putRow _ _ _ _ zs.toArray _ hH (by simp [hl])
    have hcg := chg_putRow (Value.int .i64) W n b 0 (zs.mergeSort fun x y => decide (x ≤ y)).toArray os
    refine ⟨he, ⟨_, cap, by rw [hl], by rw [hl]; exact hc, .inr ⟨b, rfl, hb, Nat.lt_of_lt_of_le hlt hcg.size, holds_grow _ _ _ _ _ _ (by rw [size_putRow]; exact hlt) hH2⟩⟩, hcg.mono (fun k _ e => by rw [e]; rfl)⟩

theorem compact_c (W : World) (base : Nat) (v : Value) (zs : List Int) (hz : zs.length ≤ 1000) (h : Ints W base v zs) :
    Calls Yba.prog 10 #[v] W fun e W' => ∃ v', e = .returned v' ∧ Ints W' base v' (Lib.compact zs) ∧ Chg (fun b => v.ownBlock = some b) W W' := by
  obtain ⟨ao, cap, rfl, hc, h | ⟨b, rfl, hb, hlt, hH⟩⟩ := h
  · subst h
    exact (Yba.slices_Compact_int_empty ao cap W).mono fun e W' ⟨he, hw⟩ => ⟨_, he, ⟨ao, cap, rfl, hc, .inl rfl⟩, by rw [hw]; exact Chg.refl _ _⟩
  · refine (Yba.slices_Compact_int b 0 cap zs W hH (by omega) hc).mono ?_
    rintro e W' ⟨he, n, rfl⟩
    have hl := Lib.compact_length_le zs
    have hH2 : Holds (Value.int .i64) (putRow (Value.int .i64) (Sort.ahead W n) b 0 (Lib.compact zs ++ List.replicate (zs.length - (Lib.compact zs).length) 0).toArray) b 0 (Lib.compact zs ++ List.replicate (zs.length - (Lib.compact zs).length) 0).toArray := holds_putRow _ _ _ _ zs.toArray _ hH (by simp; omega)
    have hcg := chg_putRow (Value.int .i64) W n b 0 (Lib.compact zs ++ List.replicate (zs.length - (Lib.compact zs).length) 0).toArray #[]
    rw [grow_nil] at hcg
    refine ⟨_, he, ⟨_, cap, rfl, by omega, .inr ⟨b, rfl, hb, Nat.lt_of_lt_of_le hlt hcg.size, fun j hj => ?_⟩⟩, hcg.mono (fun k _ e => by rw [e]; rfl)⟩
    have hj' : j < (Lib.compact zs).length := by simpa using hj
    have := hH2 j (by simp; omega)
    have e1 : (Lib.compact zs ++ List.replicate (zs.length - (Lib.compact zs).length) 0).toArray[j]! = (Lib.compact zs).toArray[j]! := by
      have h2 : (Lib.compact zs ++ List.replicate (zs.length - (Lib.compact zs).length) 0)[j]? = (Lib.compact zs)[j]? := List.getElem?_append_left hj'
      simp [h2]
    rw [e1] at this
    exact this

theorem equal_c (W : World) (b1 b2 : Nat) (v1 v2 : Value) (zs : List Int) (hz : zs.length ≤ 1000) (h1 : Ints W b1 v1 zs) (h2 : Ints W b2 v2 zs) :
    Calls Yba.prog 11 #[v1, v2] W fun e W' => e = .returned (.bool true) ∧ ∃ q, W' = W.drewN q := by
  obtain ⟨a1, c1, rfl, hc1, h1⟩ := h1
  obtain ⟨a2, c2, rfl, hc2, h2⟩ := h2
  by_cases h0 : zs = []
  · subst h0
    exact (Yba.slices_Equal_int_empty a1 a2 c1 0 c2 W (by omega)).mono fun e W' ⟨he, hw⟩ => ⟨he, 0, hw⟩
  · obtain ⟨p1, rfl, _, _, hH1⟩ := h1.resolve_left h0
    obtain ⟨p2, rfl, _, _, hH2⟩ := h2.resolve_left h0
    refine (Yba.slices_Equal_int p1 0 zs.length c1 p2 0 zs.length c2 zs zs W (Nat.le_refl _) (Nat.le_refl _) (by omega) (by omega) (fun j hj => ?_) (fun j hj => ?_)).mono fun e W' ⟨he, hw⟩ => ⟨by rw [he]; simp, hw⟩
    · rw [(hH1 j (by simpa using hj)).1]
      simp [hj, List.getD_eq_getElem?_getD]
    · rw [(hH2 j (by simpa using hj)).1]
      simp [hj, List.getD_eq_getElem?_getD]

end Go.Proofs.Ybulkadpy
