/-
  LawS1480BMatchesTable: its arguments opened; the two cases that answer at once.
-/
import Derived.Test.YbulkadpyCame
import Derived.ProofKit
import Derived.OpenShut
import Derived.Deep.Slices
import Derived.Lib.SmallJoins
namespace Go.Proofs.Ybulkadpy
open Go.ChangeShapes Go.WideShapes Go.ChangeAt Go.RowKit Go.Deep Go.Joins

theorem cells3b : Yba.prog.cellsOf 3 = 1 := by kernel_rfl
theorem cells4b : Yba.prog.cellsOf 4 = 1 := by kernel_rfl
theorem cells5b : Yba.prog.cellsOf 5 = 1 := by kernel_rfl

/-- A slice of one-cell elements, opened: each element's cell, and its reading. -/
theorem open_one {H : Type} {enc : TypeId × Value → H} {w : World} {sp : Nat → Bool} {held : Bool} {fuel : Nat} {t e : TypeId} {ao : Option Addr} {len cap : Nat} {x : DataW H × List MemPlace}
    (ht : Yba.prog.underlying t = some (.slice e)) (hce : Yba.prog.cellsOf e = 1)
    (h : DataW.trod enc Yba.prog w 0 sp held fuel t [.slice ao len cap] = some x) :
    ∀ i, i < len → ∃ v b off fu y, ao = some ⟨b, off, none⟩ ∧ len ≤ cap ∧ b < w.heap.size ∧ w.cell? ⟨b, off + i, none⟩ = some v ∧ DataW.trod enc Yba.prog w 0 sp held fu e [v] = some y := by
  intro i hi
  rcases open_slice ht h with ⟨hcs, _⟩ | ⟨a, l, c, m, n, Df, Pf, hcs, _, hl, hm, hmm, _, hel⟩
  · simp at hcs
    obtain ⟨rfl, rfl, rfl⟩ := hcs
    omega
  · simp at hcs
    obtain ⟨rfl, rfl, rfl⟩ := hcs
    rw [hce] at hel
    have hml : len ≤ m := by rw [hmm]; split <;> omega
    obtain ⟨cs, hc, hy⟩ := hel i (by omega)
    obtain ⟨_, hcl, hcc⟩ := World.cells?_some hc
    obtain ⟨c0, rfl⟩ : ∃ c0, cs = [c0] := by
      match cs, hcl with
      | [c0], _ => exact ⟨c0, rfl⟩
    have g0 := hcc 0 (by omega)
    obtain ⟨b, off, spot⟩ := a
    have hspot : spot = none := by
      obtain ⟨cs2, hc2, _⟩ := hel 0 (by omega)
      obtain ⟨_, hcl2, hcc2⟩ := World.cells?_some hc2
      have g := hcc2 0 (by omega)
      rw [List.getElem?_eq_getElem (by omega)] at g
      simpa [Addr.add] using World.cell?_spot g
    subst hspot
    simp only [Go.WideShapes.add_plain] at g0
    exact ⟨c0, b, off, _, _, rfl, hl, Lib.lt_of_cell g0, by simpa using g0, hy⟩

theorem came_ints {H : Type} {enc : TypeId × Value → H} {w : World} {sp : Nat → Bool} {held : Bool} {fuel : Nat} {t e : TypeId} {k : IntKind} {ao : Option Addr} {len cap : Nat} {x : DataW H × List MemPlace}
    (ht : Yba.prog.underlying t = some (.slice e)) (he : Yba.prog.underlying e = some (.int k)) (hce : Yba.prog.cellsOf e = 1)
    (h : DataW.trod enc Yba.prog w 0 sp held fuel t [.slice ao len cap] = some x) :
    ∃ f : Nat → Int, Came w ao len cap (fun i => .int k (f i)) ∧ ∀ i, i < len → (Lit.int k (f i)).wf = true := by
  have hone : ∀ i, i < len → ∃ z : Int, (∃ b off, ao = some ⟨b, off, none⟩ ∧ len ≤ cap ∧ b < w.heap.size ∧ w.cell? ⟨b, off + i, none⟩ = some (.int k z)) ∧ (Lit.int k z).wf = true := by
    intro i hi
    obtain ⟨v, b, off, fu, y, h1, h2, h3, h4, h5⟩ := open_one ht hce h i hi
    obtain ⟨z, hz, _, hw⟩ := DataW.trod_int he h5
    simp at hz
    subst hz
    exact ⟨z, ⟨b, off, h1, h2, h3, h4⟩, hw⟩
  obtain ⟨f, hf⟩ := choose_lt hone
  exact ⟨f, fun i hi => (hf i hi).1, fun i hi => (hf i hi).2⟩

theorem came_bools {H : Type} {enc : TypeId × Value → H} {w : World} {sp : Nat → Bool} {held : Bool} {fuel : Nat} {t e : TypeId} {ao : Option Addr} {len cap : Nat} {x : DataW H × List MemPlace}
    (ht : Yba.prog.underlying t = some (.slice e)) (he : Yba.prog.underlying e = some .bool) (hce : Yba.prog.cellsOf e = 1)
    (h : DataW.trod enc Yba.prog w 0 sp held fuel t [.slice ao len cap] = some x) :
    ∃ f : Nat → Bool, Came w ao len cap (fun i => .bool (f i)) := by
  have hone : ∀ i, i < len → ∃ z : Bool, (∃ b off, ao = some ⟨b, off, none⟩ ∧ len ≤ cap ∧ b < w.heap.size ∧ w.cell? ⟨b, off + i, none⟩ = some (.bool z)) := by
    intro i hi
    obtain ⟨v, b, off, fu, y, h1, h2, h3, h4, h5⟩ := open_one ht hce h i hi
    obtain ⟨z, hz, _⟩ := DataW.trod_bool he h5
    simp at hz
    subst hz
    exact ⟨z, ⟨b, off, h1, h2, h3, h4⟩⟩
  obtain ⟨f, hf⟩ := choose_lt hone
  exact ⟨f, fun i hi => hf i hi⟩

set_option maxRecDepth 100000 in
set_option maxHeartbeats 400000 in
theorem table_none (an ah aw : Option Addr) (cn nh ch nw cw : Nat) (excl qx : Bool) (qw : Int) (w : World) :
    Calls Yba.prog 4 #[.slice an 0 cn, .slice ah nh ch, .slice aw nw cw, .bool excl, .int .u64 qw, .bool qx] w fun e w' => e = .returned (.bool true) ∧ Below w.heap.size w w' := by
  go_enter Yba.func4, Yba.ntmps4
  go_wp2
  go_ret
  exact ⟨rfl, Below.refl _ _⟩

set_option maxRecDepth 100000 in
set_option maxHeartbeats 400000 in
theorem table_long (an ah aw : Option Addr) (n cn nh ch nw cw : Nat) (excl qx : Bool) (qw : Int) (w : World) (h : 300 < n) :
    Calls Yba.prog 4 #[.slice an n cn, .slice ah nh ch, .slice aw nw cw, .bool excl, .int .u64 qw, .bool qx] w fun e w' => e = .returned (.bool true) ∧ Below w.heap.size w w' := by
  have h1 : decide ((n : Int) = 0) = false := decide_eq_false (by omega)
  have h2 : decide ((300 : Int) < (n : Int)) = true := decide_eq_true (by omega)
  go_enter Yba.func4, Yba.ntmps4
  go_wp2
  go_ret
  exact ⟨rfl, Below.refl _ _⟩

end Go.Proofs.Ybulkadpy
