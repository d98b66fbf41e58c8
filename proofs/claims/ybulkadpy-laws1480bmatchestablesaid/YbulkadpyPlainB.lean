/-
  LawS1480BMatchesTable: the plain law: sorting and compacting.
-/
import Derived.Lib.RowBridge
namespace Go.Proofs.Ybulkadpy

theorem sort_perm {l l' : List Int} (h : l.Perm l') : (l.mergeSort fun x y => decide (x ≤ y)) = l'.mergeSort fun x y => decide (x ≤ y) := by
  have tr : ∀ a b c : Int, decide (a ≤ b) = true → decide (b ≤ c) = true → decide (a ≤ c) = true := fun a b c h1 h2 => by simp at *; omega
  have to : ∀ a b : Int, (decide (a ≤ b) || decide (b ≤ a)) = true := fun a b => by simp; omega
  refine List.Perm.eq_of_pairwise (le := fun a b => decide (a ≤ b) = true) (fun a b _ _ h1 h2 => by simp only [decide_eq_true_eq] at h1 h2; omega) (List.pairwise_mergeSort tr to l) (List.pairwise_mergeSort tr to l') (((List.mergeSort_perm _ _).trans h).trans (List.mergeSort_perm _ _).symm)

theorem sort_sorted (l : List Int) : (l.mergeSort fun x y => decide (x ≤ y)).Pairwise (· ≤ ·) := by
  have tr : ∀ a b c : Int, decide (a ≤ b) = true → decide (b ≤ c) = true → decide (a ≤ c) = true := fun a b c h1 h2 => by simp at *; omega
  have to : ∀ a b : Int, (decide (a ≤ b) || decide (b ≤ a)) = true := fun a b => by simp; omega
  have h := List.pairwise_mergeSort tr to l
  simpa using h

/-- What is kept of a sorted row increases strictly. -/
theorem compact_lt (zs : List Int) (h : zs.Pairwise (· ≤ ·)) : (Lib.compact zs).Pairwise (· < ·) := by
  have hget : ∀ i j, i ≤ j → j < zs.length → zs.toArray[i]! ≤ zs.toArray[j]! := fun i j hij hj => by
    rcases Nat.eq_or_lt_of_le hij with rfl | hlt
    · exact Int.le_refl _
    · have := List.pairwise_iff_getElem.1 h i j (by omega) hj hlt
      simpa [hj, show i < zs.length by omega] using this
  have key : ∀ m, m ≤ zs.length → (Lib.compactUpTo zs.toArray m).Pairwise (· < ·) ∧ (∀ y ∈ Lib.compactUpTo zs.toArray m, y ≤ zs.toArray[m - 1]!) := by
    intro m
    induction m with
    | zero => intro _; simp [Lib.compactUpTo]
    | succ m ih =>
      intro hm
      obtain ⟨ih1, ih2⟩ := ih (by omega)
      rw [Lib.compactUpTo_succ]
      by_cases hk : Lib.keeps zs.toArray m = true
      · rw [if_pos hk]
        have hlt : ∀ y ∈ Lib.compactUpTo zs.toArray m, y < zs.toArray[m]! := fun y hy => by
          have h1 := ih2 y hy
          have h0 : m ≠ 0 := fun e => by subst e; simp [Lib.compactUpTo] at hy
          have h2 : zs.toArray[m]! ≠ zs.toArray[m - 1]! := by
            unfold Lib.keeps at hk
            have := of_decide_eq_true hk
            exact this.resolve_left h0
          have h3 := hget (m - 1) m (by omega) (by omega)
          omega
        refine ⟨List.pairwise_append.2 ⟨ih1, by simp, fun a ha b hb => by simp at hb; subst hb; simpa using hlt a ha⟩, fun y hy => ?_⟩
        rw [Nat.add_sub_cancel]
        rcases List.mem_append.1 hy with hy | hy
        · exact Int.le_of_lt (hlt y hy)
        · simp at hy
          subst hy
          simp
      · rw [if_neg hk, List.append_nil]
        refine ⟨ih1, fun y hy => ?_⟩
        rw [Nat.add_sub_cancel]
        exact Int.le_trans (ih2 y hy) (hget (m - 1) m (by omega) (by omega))
  exact (key zs.length (Nat.le_refl _)).1

end Go.Proofs.Ybulkadpy
