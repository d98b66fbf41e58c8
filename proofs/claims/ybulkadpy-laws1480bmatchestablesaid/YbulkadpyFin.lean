/-
  LawS1480BMatchesTable: the end: blockers, the wanted ones sorted, the two compared.
-/
import Derived.Test.YbulkadpyL3
namespace Go.Proofs.Ybulkadpy
open Go.RowKit

def qmB (qx : Bool) : Int := if qx then 2 else 1

theorem inWay_perm {qx : Bool} {ex : Option Nat} {hs : List Nat} {who : Nat} {Q : List Req} {xs : List Nat} (h : InWay (qmB qx) ex hs who Q xs) : xs.Perm (hwB qx ex hs who ++ (if qx then Q else Q.filter isX).map Req.u) := by
  obtain ⟨h1, h2, rfl⟩ := h
  cases qx
  · have e : h1 = ex.toList := h2
    subst e
    exact List.Perm.refl _
  · have e : h1.Perm (hs.filter fun i => decide (i ≠ who)) := h2
    exact e.append_right _

/-- What the last loop reads. -/
def LastOk (w : World) (ao : Option Addr) (zs : List Int) (W3 : World) : Prop :=
  Below w.heap.size w W3 ∧ ∀ i, i < zs.length → ∃ b, ao = some ⟨b, 0, none⟩ ∧ ∀ j, j < zs.length → W3.cell? ⟨b, j, none⟩ = some (.int .i64 (zs.getD j 0))

theorem G.fin {w wr : World} {n : Nat} {num : Nat → Int} {md : Int} {hs : List Nat} {ex : Option Nat} {Q : List Req} {a : Bool} {wl : List Nat} {vw : Value} (h : G w wr n num md hs ex Q a wl vw) (who : Nat) (qx : Bool) (hwho : who < n) (hQ : Q.length ≤ 300) (hhs : hs.length ≤ 300) (hex : ∀ e, ex = some e → e < n) (hwl : wl = hwB qx ex hs who ++ (if qx then Q else Q.filter isX).map Req.u) :
    Calls Yba.prog 8 #[.pointer (some ⟨wr.heap.size, 0, none⟩)] (wr.alloc (reqO w.heap.size who (qmB qx) ((n : Int) + 1))) fun e W' => ∃ (zs : List Int) (ao : Option Addr) (cap : Nat), e = .returned (.slice ao zs.length cap) ∧ zs.length ≤ 1000 ∧ zs.Pairwise (· < ·) ∧
      Calls Yba.prog 9 #[vw] W' fun e W1 => e = .returned (.tuple #[]) ∧ Calls Yba.prog 10 #[vw] W1 fun e W2 => ∃ v2, e = .returned v2 ∧ Calls Yba.prog 11 #[.slice ao zs.length cap, v2] W2 fun e W3 => e = .returned (.bool true) ∧ LastOk w ao zs W3 := by
  refine (h.ask who (qmB qx) hwho (by cases qx; exact .inl rfl; exact .inr rfl) hQ hhs hex).mono ?_
  rintro e W' ⟨v, xs, he, hin, hxl, ⟨B, hv, hB⟩, hbel, hw⟩
  have hp := inWay_perm hin
  rw [← hwl] at hp
  have hwant := wanted hp hxl hv hB hbel hw
  obtain ⟨ao, cap, hvf, hcap, hrest⟩ := hv
  have hzl : (Lib.compact ((xs.map num).mergeSort fun x y => decide (x ≤ y))).length ≤ 1000 := Nat.le_trans (Lib.compact_length_le _) (by rw [List.length_mergeSort, List.length_map]; exact hxl)
  refine ⟨_, ao, cap, by rw [he, hvf], hzl, compact_lt _ (sort_sorted _), ?_⟩
  refine hwant.mono ?_
  rintro e W1 ⟨he1, h1⟩
  refine ⟨he1, h1.mono ?_⟩
  rintro e W2 ⟨v2, he2, h2⟩
  rw [hvf] at h2
  refine ⟨v2, he2, h2.mono ?_⟩
  rintro e W3 ⟨he3, hb3, ao', cap', hf3, _, h3⟩
  refine ⟨he3, hb3, fun i hi => ?_⟩
  cases hf3
  have hne : Lib.compact ((xs.map num).mergeSort fun x y => decide (x ≤ y)) ≠ [] := fun e => by rw [e] at hi; simp at hi
  obtain ⟨b, hb, _, _, hH⟩ := h3.resolve_left hne
  refine ⟨b, hb, fun j hj => ?_⟩
  have := (hH j (by simpa using hj)).1
  rw [Nat.zero_add] at this
  rw [this]
  simp [hj, List.getD_eq_getElem?_getD]

theorem I5.skip {w : World} {n : Nat} {num : Nat → Int} {qx : Bool} {who : Nat} {vv : Value} {i : Nat} {wr : World} (h : I5 w n num qx who vv (.int .i64 i) wr) (hi : i < n) : I5 w n num qx who vv (.int .i64 ((i : Int) + 1)) wr := by
  obtain ⟨i', md, hs, ex, Q, a, wl, ao, len, cap, h1, h2, h3, h4, h5, h6, h7, h8, h9, h10⟩ := h
  have e : i = i' := by
    have : ((i : Nat) : Int) = i' := by simpa using h2
    omega
  subst e
  exact ⟨i + 1, md, hs, ex, Q, a, wl, ao, len, cap, hi, by simp, h3, h4, h5, h6, h7, by omega, fun x hx => Nat.lt_succ_of_lt (h9 x hx), h10⟩

end Go.Proofs.Ybulkadpy
