/-
  LawS1480BMatchesTable: the row proved.
-/
import Derived.Test.YbulkadpyLawBF
import Derived.Test.YbulkadpyLawBT
import Derived.Test.YbulkadpyTableOpen
namespace Go.Proofs.Ybulkadpy
open Go.ChangeShapes Go.WideShapes Go.ChangeAt Go.RowKit Go.Deep Go.Joins

theorem ownB : ownKnob Yba.prog.godebug = none := by kernel_rfl
theorem laidB : laidOutB Yba.prog = true := by kernel_rfl

theorem table_walk (an ah aw : Option Addr) (n cn nh ch nw cw : Nat) (excl qx : Bool) (qw : Int) (num : Nat → Int) (hold : Nat → Bool) (wt : Nat → Int) (w : World) (hq0 : 0 ≤ qw) (hq1 : qw ≤ 18446744073709551615)
    (inN : Came w an n cn (fun i => .int .i64 (num i))) (inH : Came w ah nh ch (fun i => .bool (hold i))) (inW : Came w aw nw cw (fun i => .int .u8 (wt i))) (hwt : ∀ i, i < nw → 0 ≤ wt i ∧ wt i ≤ 255) :
    Calls Yba.prog 4 #[.slice an n cn, .slice ah nh ch, .slice aw nw cw, .bool excl, .int .u64 qw, .bool qx] w fun e w' => e = .returned (.bool true) ∧ Below w.heap.size w w' := by
  rcases Nat.eq_zero_or_pos n with rfl | hn0
  · exact table_none an ah aw cn nh ch nw cw excl qx qw w
  rcases Nat.lt_or_ge 300 n with hl | hl
  · exact table_long an ah aw n cn nh ch nw cw excl qx qw w hl
  have inW' : Came w aw nw cw (fun i => .int .u8 ((fun j => if j < nw then wt j else 0) i)) := by
    intro i hi
    have := inW i hi
    simpa [hi] using this
  have hwt' : ∀ i, 0 ≤ (fun j => if j < nw then wt j else 0) i ∧ (fun j => if j < nw then wt j else 0) i ≤ 255 := by
    intro i
    by_cases hi : i < nw
    · simpa [hi] using hwt i hi
    · simp [hi]
  cases qx
  · exact law_bF an ah aw n cn nh ch nw cw excl qw num hold _ w hn0 hl hq0 hq1 inN inH inW' hwt'
  · exact law_bT an ah aw n cn nh ch nw cw excl qw num hold _ w hn0 hl hq0 hq1 inN inH inW' hwt'

set_option maxRecDepth 100000 in
theorem matches_lifted (os : Os) (started : os.Started) (H : Type) (enc : TypeId × Value → H) :
    ReturnsInHanded {} Yba.checked os 4 .any (Rows.lawS1480BMatchesTableSpec.pre6 enc Yba.prog Yba.f4 Rows.lawS1480BMatchesTableRow.domain false) (Rows.lawS1480BMatchesTableSpec.post enc Yba.prog Yba.f4 false true false false) := by
  refine returnsInHanded_of_change (C := Yba.checked) ownB started (by kernel_rfl) Yba.func4
    (ChangeSpec.witness6 (enc := enc) (C := Yba.checked) false ⟨#[], #[.slice none 0 0, .slice none 0 0, .slice none 0 0, .bool false, .int .u64 0, .bool false], []⟩ 8 (by kernel_rfl) (by kernel_rfl) (by kernel_rfl) (by kernel_rfl)) ?_
  intro W base args ds gs before hval0 hW hcnd _
  have hval : ∀ (j : Nat) t v, Yba.f4.params[j]? = some t → args[j]? = some v → Value.okWide Yba.prog W .any base t v := hval0
  have hW' := hW
  obtain ⟨p, q, hA0, hV, rfl, hfz, hnd⟩ := hW
  have hA : DataW.TrodAll enc Yba.prog W 0 (fun _ => true) true Yba.f4.params.toList args.toList ds p := hA0
  rw [Yba.params4] at hA hval
  obtain ⟨v0, vs0, d0, ds0, p0, q0, hargs, rfl, rfl, h0, r0⟩ := trodAll_cons hA
  obtain ⟨v1, vs1, d1, ds1, p1, q1, rfl, rfl, rfl, h1, r1⟩ := trodAll_cons r0
  obtain ⟨v2, vs2, d2, ds2, p2, q2, rfl, rfl, rfl, h2, r2⟩ := trodAll_cons r1
  obtain ⟨v3, vs3, d3, ds3, p3, q3, rfl, rfl, rfl, h3, r3⟩ := trodAll_cons r2
  obtain ⟨v4, vs4, d4, ds4, p4, q4, rfl, rfl, rfl, h4, r4⟩ := trodAll_cons r3
  obtain ⟨v5, vs5, d5, ds5, p5, q5, rfl, rfl, rfl, h5, r5⟩ := trodAll_cons r4
  obtain ⟨rfl, rfl, rfl⟩ := trodAll_nil r5
  obtain rfl : args = #[v0, v1, v2, v3, v4, v5] := by cases args; simp_all
  obtain ⟨rfl, rfl⟩ := trodVars_none hV
  obtain ⟨a0, n0, c0, rfl⟩ := okWide_slice Yba.underlying74 (hval 0 74 v0 rfl rfl)
  obtain ⟨a1, n1, c1, rfl⟩ := okWide_slice Yba.underlying75 (hval 1 75 v1 rfl rfl)
  obtain ⟨a2, n2, c2, rfl⟩ := okWide_slice Yba.underlying76 (hval 2 76 v2 rfl rfl)
  obtain ⟨excl, rfl, rfl, rfl⟩ := open_bool Yba.underlying4 (hval 3 4 v3 rfl rfl) h3
  obtain ⟨qw, rfl, rfl, rfl, wq⟩ := open_int Yba.underlying77 (hval 4 77 v4 rfl rfl) h4
  obtain ⟨qx, rfl, rfl, rfl⟩ := open_bool Yba.underlying4 (hval 5 4 v5 rfl rfl) h5
  have k0 := h0
  have k1 := h1
  have k2 := h2
  have lt0 : ∀ x ∈ p0, x.block < W.heap.size := by obtain ⟨m, hm⟩ := k0; exact DataW.trod_lt m _ _ _ hm
  have lt1 : ∀ x ∈ p1, x.block < W.heap.size := by obtain ⟨m, hm⟩ := k1; exact DataW.trod_lt m _ _ _ hm
  have lt2 : ∀ x ∈ p2, x.block < W.heap.size := by obtain ⟨m, hm⟩ := k2; exact DataW.trod_lt m _ _ _ hm
  obtain ⟨num, inN, _⟩ : ∃ f : Nat → Int, Came W a0 n0 c0 (fun i => .int .i64 (f i)) ∧ ∀ i, i < n0 → (Lit.int .i64 (f i)).wf = true := by
    obtain ⟨fuel, hf⟩ := h0
    exact came_ints Yba.underlying74 Yba.underlying3 cells3b (by simpa [Value.cells] using hf)
  obtain ⟨hold, inH⟩ : ∃ f : Nat → Bool, Came W a1 n1 c1 (fun i => .bool (f i)) := by
    obtain ⟨fuel, hf⟩ := h1
    exact came_bools Yba.underlying75 Yba.underlying4 cells4b (by simpa [Value.cells] using hf)
  obtain ⟨wt, inW, hwt⟩ : ∃ f : Nat → Int, Came W a2 n2 c2 (fun i => .int .u8 (f i)) ∧ ∀ i, i < n2 → (Lit.int .u8 (f i)).wf = true := by
    obtain ⟨fuel, hf⟩ := h2
    exact came_ints Yba.underlying76 Yba.underlying5 cells5b (by simpa [Value.cells] using hf)
  obtain ⟨hq0, hq1⟩ := bounds_u64 wq
  clear hA0 hval0
  refine (table_walk a0 a1 a2 n0 c0 n1 c1 n2 c2 excl qx qw num hold wt W hq0 hq1 inN inH inW (fun i hi => bounds_u8 (hwt i hi))).mono fun e W' ⟨he, bel⟩ => ?_
  subst he
  exact ⟨_, rfl, _, _, _, [], _, [], hW', trodAll_mk1 (shut_bool Yba.underlying4 _),
    (trodAll_cons_mk (Below.trod laidB (by kernel_rfl) (of_decide_eq_true (by kernel_rfl)) k0 bel lt0)
    (trodAll_cons_mk (Below.trod laidB (by kernel_rfl) (of_decide_eq_true (by kernel_rfl)) k1 bel lt1)
    (trodAll_cons_mk (Below.trod laidB (by kernel_rfl) (of_decide_eq_true (by kernel_rfl)) k2 bel lt2)
    (trodAll_cons_mk (shut_bool Yba.underlying4 _)
    (trodAll_cons_mk (shut_int Yba.underlying77 wq)
    (trodAll_cons_mk (shut_bool Yba.underlying4 _) trodAll_mk0)))))), rfl, bel.frame _, fun h => by cases h⟩

theorem matches_holds : Rows.LawS1480BMatchesTableSaid :=
  OpenClaim.holds_of_wide 4 Yba.f4 rfl rfl rfl rfl rfl rfl rfl ⟨rfl, rfl, rfl, rfl, rfl⟩ rfl rfl rfl rfl rfl (by kernel_rfl) Yba.func4 (by kernel_rfl)
    (of_decide_eq_true (by kernel_rfl)) (by unfold Func.isWrapper; first | (rw [if_pos (by decide +kernel)]; kernel_rfl) | (rw [if_neg (by decide +kernel)]; exact ⟨rfl, rfl⟩))
    (fun os started H enc _ => matches_lifted os started H enc)

end Go.Proofs.Ybulkadpy
