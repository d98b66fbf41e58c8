/-
  LawS1478ABuilt: the row proved, and the tied card closed.
-/
import Derived.Test.YbulkadowDoorCards
import Derived.Test.YbulkadowDoorTie
import Derived.Test.YbulkadowDoorLaid
import Derived.Test.YbulkadowDoorBuiltWalk
import Derived.SevenTiedAt
namespace Go.Proofs.YbulkadowDoor
open Go.ChangeShapes Go.WideShapes Go.ChangeAt Go.RowKit

theorem byte_bounds (n : Int) (h : (Lit.int .u8 n).wf = true) : 0 ≤ n ∧ n ≤ 255 := by
  simp [Lit.wf, IntKind.min, IntKind.max, IntKind.signed, IntKind.bits] at h
  omega

set_option maxHeartbeats 400000 in
theorem built_long (a b c d : Int) (ao : Option Addr) (len cap : Nat) (w : World) (h : 1024 < len) :
    Calls Ybad.prog 4 #[.int .u8 a, .int .u8 b, .int .u8 c, .int .u8 d, .slice ao len cap] w fun e w' => e = .returned (.bool true) ∧ Below w.heap.size w w' := by
  go_enter Ybad.func4, Ybad.ntmps4
  go_wp2
  go_ret
  exact ⟨rfl, Below.refl _ _⟩

theorem built_walk (a b c d : Int) (ao : Option Addr) (len cap : Nat) (zs : List Int) (w : World)
    (ha : (Lit.int .u8 a).wf = true) (hb : (Lit.int .u8 b).wf = true) (hc : (Lit.int .u8 c).wf = true) (hd : (Lit.int .u8 d).wf = true)
    (hr : IsRow .u8 w ao len cap zs) (ev : Value) (hv : w.cell? ⟨0, 0, none⟩ = some ev) (hev : ev = .nilIface ∨ ∃ te pe, ev = .iface te pe) :
    Calls Ybad.prog 4 #[.int .u8 a, .int .u8 b, .int .u8 c, .int .u8 d, .slice ao len cap] w fun e w' => e = .returned (.bool true) ∧ Below w.heap.size w w' := by
  rcases Nat.lt_or_ge 1024 len with hl | hl
  · exact built_long a b c d ao len cap w hl
  · rcases hr with ⟨rfl, rfl, rfl, rfl⟩ | ⟨x, rfl, hlc, hm, hz, hcell, hwz⟩
    · exact built_any a b c d none 0 0 [] w (byte_bounds a ha) (byte_bounds b hb) (byte_bounds c hc) (byte_bounds d hd) (by omega) rfl (fun _ => ⟨rfl, rfl⟩) (fun ad h => by cases h) ev hv hev
    · refine built_any a b c d (some x) len cap (zs.take len) w (byte_bounds a ha) (byte_bounds b hb) (byte_bounds c hc) (byte_bounds d hd) hl (by simp; omega) (fun h => by cases h) (fun ad had j u hu => ?_) ev hv hev
      cases had
      have hj : j < len ∧ j < zs.length := by
        have := (List.getElem?_eq_some_iff.1 hu).1
        simp at this
        omega
      have := hcell j hj.2
      rw [this]
      simp [hj.1, List.getElem?_eq_getElem hj.2] at hu
      rw [← hu]
      simp [List.getD, List.getElem?_eq_getElem hj.2]

set_option maxRecDepth 100000 in
theorem built_lifted (os : Os) (started : os.Started) (H : Type) (enc : TypeId × Value → H) :
    ReturnsInHanded {} Ybad.checked os 4 .any (fun w args => (Rows.lawS1478ABuiltSpec.pre enc Ybad.prog Ybad.f4 [] false w args ∧ laidMetH Ybad.prog Rows.lawS1478ABuiltRow.laid w) ∧ sizedMet enc Ybad.prog Ybad.f4 (OpenSpec.ofChange Rows.lawS1478ABuiltSpec) false w args)
      (Rows.lawS1478ABuiltSpec.post enc Ybad.prog Ybad.f4 false true false false) := by
  refine returnsInHanded_of_change_and (C := Ybad.checked) (X := fun w _ => laidMetH Ybad.prog Rows.lawS1478ABuiltRow.laid w) (fun _ _ _ hh h => h.of_heap hh) own started (by kernel_rfl) Ybad.func4
    (ChangeSpec.witness_shaped (enc := enc) (C := Ybad.checked) (os := os) (X := fun w _ => laidMetH Ybad.prog Rows.lawS1478ABuiltRow.laid w) false (World.doorLaid Ybad.prog 62 os) #[.int .u8 0, .int .u8 0, .int .u8 0, .int .u8 0, .slice none 0 0] 8 rfl (World.shaped_of_RefB (by kernel_rfl) (by kernel_rfl)) (by kernel_rfl) (by kernel_rfl) (by kernel_rfl) (door_met os _)) ?_
  intro W base args ds gs before hval0 hW _ _ hL _
  have hval : ∀ (j : Nat) t v, Ybad.f4.params[j]? = some t → args[j]? = some v → Value.okWide Ybad.prog W .any base t v := hval0
  have hW' := hW
  obtain ⟨p, q, hA0, hV, rfl, hfz, hnd⟩ := hW
  have hA : DataW.TrodAll enc Ybad.prog W 0 (fun _ => true) true Ybad.f4.params.toList args.toList ds p := hA0
  rw [Ybad.params4] at hA hval
  obtain ⟨v0, vs0, d0, ds0, p0, q0, hargs, rfl, rfl, h0, r0⟩ := trodAll_cons hA
  obtain ⟨v1, vs1, d1, ds1, p1, q1, rfl, rfl, rfl, h1, r1⟩ := trodAll_cons r0
  obtain ⟨v2, vs2, d2, ds2, p2, q2, rfl, rfl, rfl, h2, r2⟩ := trodAll_cons r1
  obtain ⟨v3, vs3, d3, ds3, p3, q3, rfl, rfl, rfl, h3, r3⟩ := trodAll_cons r2
  obtain ⟨v4, vs4, d4, ds4, p4, q4, rfl, rfl, rfl, h4, r4⟩ := trodAll_cons r3
  obtain ⟨rfl, rfl, rfl⟩ := trodAll_nil r4
  obtain rfl : args = #[v0, v1, v2, v3, v4] := by cases args; simp_all
  obtain ⟨rfl, rfl⟩ := trodVars_none hV
  obtain ⟨a, rfl, rfl, rfl, wa⟩ := open_int Ybad.underlying5 (hval 0 5 v0 rfl rfl) h0
  obtain ⟨b, rfl, rfl, rfl, wb⟩ := open_int Ybad.underlying5 (hval 1 5 v1 rfl rfl) h1
  obtain ⟨c, rfl, rfl, rfl, wc⟩ := open_int Ybad.underlying5 (hval 2 5 v2 rfl rfl) h2
  obtain ⟨d, rfl, rfl, rfl, wd⟩ := open_int Ybad.underlying5 (hval 3 5 v3 rfl rfl) h3
  obtain ⟨a0, len0, cap0, rfl⟩ := okWide_slice Ybad.underlying22 (hval 4 22 v4 rfl rfl)
  have k0 := h4
  have lt0 : ∀ x ∈ p4, x.block < W.heap.size := by obtain ⟨m, hm⟩ := k0; exact DataW.trod_lt m _ _ _ hm
  obtain ⟨z0, w0⟩ : ∃ zs, IsRow .u8 W a0 len0 cap0 zs := by
    obtain ⟨fuel, hf⟩ := h4
    rcases open_ints Ybad.underlying22 Ybad.underlying5 (by kernel_rfl) hf with ⟨hcs, _⟩ | ⟨x, l, c, zs, hcs, _, hl, hm, hz, _, hcell, hwz⟩
    · simp [Value.cells] at hcs
      obtain ⟨rfl, rfl, rfl⟩ := hcs
      exact ⟨[], .inl ⟨rfl, rfl, rfl, rfl⟩⟩
    · simp [Value.cells] at hcs
      obtain ⟨rfl, rfl, rfl⟩ := hcs
      exact ⟨zs, .inr ⟨_, rfl, hl, hm, by simpa using hz, hcell, hwz⟩⟩
  clear hA0 hval0
  obtain ⟨ev, hv, hev⟩ := syn_of_laid hL
  refine (built_walk a b c d a0 len0 cap0 z0 W wa wb wc wd w0 ev hv hev).mono fun e W' ⟨he, bel⟩ => ?_
  subst he
  exact ⟨_, rfl, _, _, _, [], _, [], hW', trodAll_mk1 (shut_bool Ybad.underlying4 _), (trodAll_cons_mk (shut_int Ybad.underlying5 wa) (trodAll_cons_mk (shut_int Ybad.underlying5 wb) (trodAll_cons_mk (shut_int Ybad.underlying5 wc) (trodAll_cons_mk (shut_int Ybad.underlying5 wd) (trodAll_cons_mk (Below.trod laidOut (by kernel_rfl) (of_decide_eq_true (by kernel_rfl)) k0 bel lt0) trodAll_mk0))))), rfl, bel.frame _, fun h => by cases h⟩

theorem built_row : Rows.LawS1478ABuiltSaid :=
  OpenClaim.holds_of_wide 4 Ybad.f4 rfl rfl rfl rfl rfl rfl rfl ⟨rfl, rfl, rfl, rfl, rfl⟩ rfl rfl rfl rfl rfl (by kernel_rfl) Ybad.func4 (by kernel_rfl)
    (of_decide_eq_true (by kernel_rfl)) (by unfold Func.isWrapper; first | (rw [if_pos (by decide +kernel)]; kernel_rfl) | (rw [if_neg (by decide +kernel)]; exact ⟨rfl, rfl⟩))
    (fun os started H enc _ => built_lifted os started H enc)

theorem built_card : Rows.LawS1478ABuiltCardSaid :=
  Claim7.holds_tied_plain_at .later [] [.data, .data, .data, .sentinel, .sentinel] true (true, "5b829fe5426f6cbccee91db850db3a4665a3a0acadcb5f0d4243f213aa373aec") true
    built_row (fun _ h => by cases h) (by kernel_rfl) (fun _ h => by cases h) lawS1478ABuilt_row_tie rfl ⟨rfl, rfl⟩ (by kernel_rfl) rfl
    (fun f fn hf hfn => by
      obtain rfl : f = 4 := Option.some.inj ((show Ybad.prog.funcNamed Ybad.f4.name = some 4 by kernel_rfl).symm.trans hf) |>.symm
      obtain rfl : fn = Ybad.f4 := (Option.some.inj (Ybad.func4.symm.trans hfn)).symm
      exact ⟨by kernel_rfl, fun j t ht => by
        rw [Ybad.params4] at ht
        have hm : t ∈ [5, 5, 5, 5, 22] := by simpa using Array.mem_of_getElem? ht
        have hall : ([5, 5, 5, 5, 22].all fun u => !Ybad.prog.wantsStandIn u) = true := by kernel_rfl
        exact (show Ybad.prog.wantsStandIn t = false by simpa using List.all_eq_true.1 hall t hm)⟩)
    (by kernel_rfl)

end Go.Proofs.YbulkadowDoor
