/-
  LawS1480AAbort: the row proved.
-/
import Derived.Test.YbulkadpyLawA
import Derived.ProofKit
import Derived.OpenShut
import Derived.Deep.Slices
import Derived.Lib.SmallJoins
namespace Go.Proofs.Ybulkadpy
open Go.ChangeShapes Go.WideShapes Go.ChangeAt Go.RowKit Go.Deep Go.Joins

theorem own : ownKnob Yba.prog.godebug = none := by kernel_rfl
theorem laidOut : laidOutB Yba.prog = true := by kernel_rfl
theorem cells56 : Yba.prog.cellsOf 56 = 4 := by kernel_rfl
theorem cells5 : Yba.prog.cellsOf 5 = 1 := by kernel_rfl
theorem cells4 : Yba.prog.cellsOf 4 = 1 := by kernel_rfl

/-- The input, opened: its elements' four cells each. -/
def IsIn (w : World) (ao : Option Addr) (len cap : Nat) (ds : List D) : Prop :=
  ds.length = len ∧ ∀ (i : Nat) (d : D), ds[i]? = some d → ∃ b off, ao = some ⟨b, off, none⟩ ∧ b < w.heap.size ∧ len ≤ cap ∧ w.cell? ⟨b, off + i * 4, none⟩ = some (.int .u8 d.mode) ∧ w.cell? ⟨b, off + i * 4 + 1, none⟩ = some (.bool d.other) ∧ w.cell? ⟨b, off + i * 4 + 2, none⟩ = some (.bool d.excl) ∧ w.cell? ⟨b, off + i * 4 + 3, none⟩ = some (.bool d.aw)

theorem list4 (cs : List Value) (h : cs.length = 4) : ∃ c0 c1 c2 c3, cs = [c0, c1, c2, c3] := by
  match cs, h with
  | [c0, c1, c2, c3], _ => exact ⟨c0, c1, c2, c3, rfl⟩

theorem open_in {H : Type} {enc : TypeId × Value → H} {w : World} {sp : Nat → Bool} {held : Bool} {fuel : Nat} {ao : Option Addr} {len cap : Nat} {x : DataW H × List MemPlace}
    (h : DataW.trod enc Yba.prog w 0 sp held fuel 22 [.slice ao len cap] = some x) : ∃ ds, IsIn w ao len cap ds := by
  rcases open_slice Yba.underlying22 h with ⟨hcs, _⟩ | ⟨a, l, c, m, n, Df, Pf, hcs, _, hl, hm, hmm, _, hel⟩
  · simp at hcs
    obtain ⟨rfl, rfl, rfl⟩ := hcs
    exact ⟨[], rfl, fun i d hd => by simp at hd⟩
  · simp at hcs
    obtain ⟨rfl, rfl, rfl⟩ := hcs
    rw [cells56] at hel
    have hml : len ≤ m := by rw [hmm]; split <;> omega
    have hone : ∀ i, i < len → ∃ d : D, ∃ b off, a = ⟨b, off, none⟩ ∧ b < w.heap.size ∧ w.cell? ⟨b, off + i * 4, none⟩ = some (.int .u8 d.mode) ∧ w.cell? ⟨b, off + i * 4 + 1, none⟩ = some (.bool d.other) ∧ w.cell? ⟨b, off + i * 4 + 2, none⟩ = some (.bool d.excl) ∧ w.cell? ⟨b, off + i * 4 + 3, none⟩ = some (.bool d.aw) := by
      intro i hi
      obtain ⟨cs, hc, ht⟩ := hel i (by omega)
      obtain ⟨_, hcl, hcc⟩ := World.cells?_some hc
      obtain ⟨y0, y1, y2, y3, n', _, _, h0, h1, h2, h3⟩ := trod_struct4 Yba.underlying56 ht
      obtain ⟨c0, c1, c2, c3, rfl⟩ := list4 cs hcl
      obtain ⟨m0, e0, _, _⟩ := DataW.trod_int Yba.underlying5 h0
      obtain ⟨m1, e1, _⟩ := DataW.trod_bool Yba.underlying4 h1
      obtain ⟨m2, e2, _⟩ := DataW.trod_bool Yba.underlying4 h2
      obtain ⟨m3, e3, _⟩ := DataW.trod_bool Yba.underlying4 h3
      simp [cells5] at e0
      simp [cells4] at e1 e2 e3
      subst e0 e1 e2 e3
      have g0 := hcc 0 (by omega)
      have g1 := hcc 1 (by omega)
      have g2 := hcc 2 (by omega)
      have g3 := hcc 3 (by omega)
      obtain ⟨b, off, spot⟩ := a
      have hspot : spot = none := by
        obtain ⟨cs2, hc2, _⟩ := hel 0 (by omega)
        obtain ⟨_, hcl2, hcc2⟩ := World.cells?_some hc2
        have g := hcc2 0 (by omega)
        rw [List.getElem?_eq_getElem (by omega)] at g
        simpa [Addr.add] using World.cell?_spot g
      subst hspot
      simp only [Go.WideShapes.add_plain] at g0 g1 g2 g3
      exact ⟨⟨m0, m1, m2, m3⟩, b, off, rfl, Lib.lt_of_cell g0, by simpa using g0, by simpa using g1, by simpa using g2, by simpa using g3⟩
    have : Inhabited D := ⟨⟨0, false, false, false⟩⟩
    obtain ⟨f, hf⟩ := choose_lt hone
    refine ⟨(List.range len).map f, by simp, fun i d hd => ?_⟩
    have hi : i < len := by simpa using (List.getElem?_eq_some_iff.1 hd).1
    have hd2 : f i = d := by simpa [hi] using hd
    obtain ⟨b, off, rfl, h2, h3, h4, h5, h6⟩ := hf i hi
    rw [hd2] at h3 h4 h5 h6
    exact ⟨b, off, rfl, h2, hl, h3, h4, h5, h6⟩

set_option maxRecDepth 100000 in
set_option maxHeartbeats 400000 in
theorem law_long (num : Int) (ao : Option Addr) (len cap : Nat) (w : World) (h : 256 < len) :
    Calls Yba.prog 3 #[.int .i64 num, .slice ao len cap] w fun e w' => e = .returned (.bool true) ∧ Below w.heap.size w w' := by
  go_enter Yba.func3, Yba.ntmps3
  go_wp2
  go_ret
  exact ⟨rfl, Below.refl _ _⟩

theorem law_walk (num : Int) (ao : Option Addr) (len cap : Nat) (ds : List D) (w : World) (h : IsIn w ao len cap ds) :
    Calls Yba.prog 3 #[.int .i64 num, .slice ao len cap] w fun e w' => e = .returned (.bool true) ∧ Below w.heap.size w w' := by
  rcases Nat.lt_or_ge 256 len with hl | hl
  · exact law_long num ao len cap w hl
  · exact law_start num ao len cap ds w hl h.1 h.2

set_option maxRecDepth 100000 in
theorem abort_lifted (os : Os) (started : os.Started) (H : Type) (enc : TypeId × Value → H) :
    ReturnsInHanded {} Yba.checked os 3 .any (Rows.lawS1480AAbortSpec.pre6 enc Yba.prog Yba.f3 Rows.lawS1480AAbortRow.domain false) (Rows.lawS1480AAbortSpec.post enc Yba.prog Yba.f3 false true false false) := by
  refine returnsInHanded_of_change (C := Yba.checked) own started (by kernel_rfl) Yba.func3
    (ChangeSpec.witness6 (enc := enc) (C := Yba.checked) false ⟨#[], #[.int .i64 0, .slice none 0 0], []⟩ 8 (by kernel_rfl) (by kernel_rfl) (by kernel_rfl) (by kernel_rfl)) ?_
  intro W base args ds gs before hval0 hW hcnd _
  have hval : ∀ (j : Nat) t v, Yba.f3.params[j]? = some t → args[j]? = some v → Value.okWide Yba.prog W .any base t v := hval0
  have hW' := hW
  obtain ⟨p, q, hA0, hV, rfl, hfz, hnd⟩ := hW
  have hA : DataW.TrodAll enc Yba.prog W 0 (fun _ => true) true Yba.f3.params.toList args.toList ds p := hA0
  rw [Yba.params3] at hA hval
  obtain ⟨v0, vs0, d0, ds0, p0, q0, hargs, rfl, rfl, h0, r0⟩ := trodAll_cons hA
  obtain ⟨v1, vs1, d1, ds1, p1, q1, rfl, rfl, rfl, h1, r1⟩ := trodAll_cons r0
  obtain ⟨rfl, rfl, rfl⟩ := trodAll_nil r1
  obtain rfl : args = #[v0, v1] := by cases args; simp_all
  obtain ⟨rfl, rfl⟩ := trodVars_none hV
  obtain ⟨num, rfl, rfl, rfl, wn⟩ := open_int Yba.underlying3 (hval 0 3 v0 rfl rfl) h0
  obtain ⟨a0, len0, cap0, rfl⟩ := okWide_slice Yba.underlying22 (hval 1 22 v1 rfl rfl)
  have k0 := h1
  have lt0 : ∀ x ∈ p1, x.block < W.heap.size := by obtain ⟨m, hm⟩ := k0; exact DataW.trod_lt m _ _ _ hm
  obtain ⟨es, hes⟩ : ∃ es, IsIn W a0 len0 cap0 es := by
    obtain ⟨fuel, hf⟩ := h1
    exact open_in (by simpa [Value.cells] using hf)
  clear hA0 hval0
  refine (law_walk num a0 len0 cap0 es W hes).mono fun e W' ⟨he, bel⟩ => ?_
  subst he
  exact ⟨_, rfl, _, _, _, [], _, [], hW', trodAll_mk1 (shut_bool Yba.underlying4 _), (trodAll_cons_mk (shut_int Yba.underlying3 wn) (trodAll_cons_mk (Below.trod laidOut (by kernel_rfl) (of_decide_eq_true (by kernel_rfl)) k0 bel lt0) trodAll_mk0)), rfl, bel.frame _, fun h => by cases h⟩

theorem abort_holds : Rows.LawS1480AAbortSaid :=
  OpenClaim.holds_of_wide 3 Yba.f3 rfl rfl rfl rfl rfl rfl rfl ⟨rfl, rfl, rfl, rfl, rfl⟩ rfl rfl rfl rfl rfl (by kernel_rfl) Yba.func3 (by kernel_rfl)
    (of_decide_eq_true (by kernel_rfl)) (by unfold Func.isWrapper; first | (rw [if_pos (by decide +kernel)]; kernel_rfl) | (rw [if_neg (by decide +kernel)]; exact ⟨rfl, rfl⟩))
    (fun os started H enc _ => abort_lifted os started H enc)

end Go.Proofs.Ybulkadpy
