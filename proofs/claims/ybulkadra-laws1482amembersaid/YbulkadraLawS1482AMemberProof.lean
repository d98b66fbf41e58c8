/-
  THE SHELL OF A PROOF OF 'Rows.LawS1482AMemberSaid' ('example.com/peerglot/peerglot/fetch.LawS1482AMember'), WRITTEN BY PROGRAM (proof-skeleton.mjs) off the guide's own print for that function. Not trusted: Lean checks it.
-/
import Derived.Test.YbulkadraRows
import Derived.WalkKit
import Derived.Deep.QuietTactic
import Derived.BigQuiet
import Derived.WalkSpells
import Derived.WalkLawsBesides
import Derived.ProofKit
import Derived.OpenShut
import Derived.ShutString
namespace Go.Proofs.Ybulkadra.lawS1482AMember
open Go.ChangeShapes Go.WideShapes Go.ChangeAt Go.RowKit
open Go.ChangeMaps (open_string shut_string)
set_option linter.unusedVariables false      -- a walk need not use every 'w<i>' (that an integer argument fits its kind)

theorem own : ownKnob Yba.prog.godebug = none := by kernel_rfl

/-! ### STEP 1: THE WALK: the Go text returns true. 'Grown w w'': the world has at most new blocks (Derived/RowKit3.lean). Part the cases AHEAD of 'go_enter' where a test parts the walk; take each callee by a contract of your own. -/
theorem u64_bounds (n : Int) (h : (Lit.int .u64 n).wf = true) : 0 ≤ n ∧ n ≤ 18446744073709551615 := by
  simp [Lit.wf, IntKind.min, IntKind.max, IntKind.signed, IntKind.bits] at h
  omega

set_option maxHeartbeats 400000 in
theorem whole_pos (a0 : Int) (h1 : 1 ≤ a0) (h2 : a0 ≤ 18446744073709551615) (w : World) :
    Calls Yba.prog 5 #[.int .u64 a0] w fun e w' => e = .returned (.slice (some ⟨w.heap.size, 0, none⟩) 1 1) ∧ w' = w.alloc (.cells #[.int .u64 0, .int .u64 (a0 - 1)] 27) := by
  have h3 : (a0 == 0) = false := beq_eq_false_iff_ne.2 (by omega)
  go_enter Yba.func5, Yba.ntmps5
  go_wp2
  go_ret
  exact ⟨rfl, rfl⟩

/-- What holds of the world all through: the one range lies at block N. -/
def Has (w : World) (N : Nat) (l : Int) (w' : World) : Prop := w'.cell? ⟨N, 0, none⟩ = some (.int .u64 0) ∧ w'.cell? ⟨N, 1, none⟩ = some (.int .u64 l) ∧ Grown w w'
theorem Has.drew {w w' : World} {N : Nat} {l : Int} (h : Has w N l w') : Has w N l w'.drew := ⟨h.1, h.2.1, h.2.2.drew⟩

set_option maxHeartbeats 1000000 in
theorem walk_pos (a0 a1 : Int) (h1 : 1 ≤ a0) (h2 : a0 ≤ 18446744073709551615) (c0 : 0 ≤ a1) (c1 : a1 ≤ 18446744073709551615) (w : World) :
    Calls Yba.prog 4 #[.int .u64 a0, .int .u64 a1] w fun e w' => e = .returned (.bool true) ∧ Grown w w' := by
  have hgt : decide (a0 - 1 < 0) = false := decide_eq_false (by omega)
  have hgp : decide (0 < a0) = true := decide_eq_true (by omega)
  obtain ⟨b, hd, he⟩ : ∃ b : Bool, decide (a1 < a0) = b ∧ decide (a1 ≤ a0 - 1) = b := ⟨decide (a1 < a0), rfl, by by_cases h : a1 < a0 <;> simp [h] <;> omega⟩
  cases b
  all_goals
    go_enter Yba.func4, Yba.ntmps4
    go_wp2_with (go_at_call 5; refine (whole_pos _ h1 h2 _).mono ?_; rintro e w' ⟨rfl, rfl⟩)
    go_loopw [6, 7] (fun vi vk wr => Has w w.heap.size (a0 - 1) wr ∧ ((vi = .bool false ∧ vk = .int .i64 0) ∨ (vi = .bool (decide (a1 < a0)) ∧ vk = .int .i64 1))) (fun _ vk _ => 1 - (intOf vk).toNat)
    case atStart => exact ⟨⟨by simp, by simp, (Grown.refl _).alloc _ _⟩, .inl ⟨rfl, rfl⟩⟩
    case round =>
      obtain ⟨hH, hk⟩ := hrel
      obtain ⟨hc0, hc1, hg⟩ := hH
      rcases hk with ⟨rfl, rfl⟩ | ⟨rfl, rfl⟩
      · go_wp2
        go_quiet (fail)
        go_wp2
        go_roundw
        case rel => exact ⟨⟨hc0, hc1, hg⟩, .inr ⟨by rw [hd], rfl⟩⟩
        case measure => simp [intOf]
      · rw [hd]
        go_wp2
        go_loopw [8, 9] (fun vi vk wr => Has w w.heap.size (a0 - 1) wr ∧ ((vi = .bool false ∧ vk = .int .i64 0) ∨ (vi = .bool true ∧ vk = .int .i64 1))) (fun _ vk _ => 1 - (intOf vk).toNat)
        case atStart => exact ⟨⟨hc0, hc1, hg⟩, .inl ⟨rfl, rfl⟩⟩
        case round =>
          clear hc0 hc1 hg
          obtain ⟨hH, hk⟩ := hrel
          obtain ⟨hc0, hc1, hg⟩ := hH
          rcases hk with ⟨rfl, rfl⟩ | ⟨rfl, rfl⟩
          · go_wp2
            go_roundw
            case rel => exact ⟨⟨hc0, hc1, hg⟩, .inr ⟨rfl, rfl⟩⟩
            case measure => simp [intOf]
          · go_wp2
            go_ret
            exact ⟨rfl, hg⟩

theorem walk (a0 : Int) (a1 : Int) (w0 : (Lit.int .u64 a0).wf = true) (w1 : (Lit.int .u64 a1).wf = true) (w : World) :
    Calls Yba.prog 4 #[.int .u64 a0, .int .u64 a1] w fun e w' => e = .returned (.bool true) ∧ Grown w w' := by
  obtain ⟨b0, b1⟩ := u64_bounds a0 w0
  obtain ⟨c0, c1⟩ := u64_bounds a1 w1
  clear w0 w1
  by_cases h : a0 = 0
  · subst h
    clear b0 b1
    go_enter Yba.func4, Yba.ntmps4
    go_wp2
    go_loop [6, 7] (fun vi vk => vi = .bool false ∧ vk = .int .i64 0) (fun _ _ => 0)
    case atStart => exact ⟨rfl, rfl⟩
    case round =>
      obtain ⟨rfl, rfl⟩ := hrel
      have hx : decide (a1 < 0) = false := decide_eq_false (by omega)
      go_wp2
      go_loop [8, 9] (fun vi vk => vi = .bool false ∧ vk = .int .i64 0) (fun _ _ => 0)
      case atStart => exact ⟨rfl, rfl⟩
      case round =>
        obtain ⟨rfl, rfl⟩ := hrel
        go_wp2
        go_ret
        exact ⟨rfl, Grown.refl _⟩
  · exact walk_pos a0 a1 (by omega) b1 c0 c1 w

/-! ### THE ROW's STEP: WRITTEN OUT: LEAVE IT -/
set_option maxRecDepth 100000 in
theorem lifted (os : Os) (started : os.Started) (H : Type) (enc : TypeId × Value → H) :
    ReturnsInHanded {} Yba.checked os 4 .any (Rows.lawS1482AMemberSpec.pre6 enc Yba.prog Yba.f4 Rows.lawS1482AMemberRow.domain false) (Rows.lawS1482AMemberSpec.post enc Yba.prog Yba.f4 false true false false) := by
  refine returnsInHanded_of_change (C := Yba.checked) own started (by kernel_rfl) Yba.func4
    (ChangeSpec.witness6 (enc := enc) (C := Yba.checked) false ⟨#[], #[.int .u64 0, .int .u64 0], []⟩ 8 (by kernel_rfl) (by kernel_rfl) (by kernel_rfl) (by kernel_rfl)) ?_
  intro W base args ds gs before hval0 hW hcnd _
  have hval : ∀ (j : Nat) t v, Yba.f4.params[j]? = some t → args[j]? = some v → Value.okWide Yba.prog W .any base t v := hval0
  have hW' := hW
  obtain ⟨p, q, hA0, hV, rfl, hfz, hnd⟩ := hW
  have hA : DataW.TrodAll enc Yba.prog W 0 (fun _ => true) true Yba.f4.params.toList args.toList ds p := hA0
  rw [Yba.params4] at hA hval
  obtain ⟨v0, vs0, d0, ds0, p0, q0, hargs, rfl, rfl, h0, r0⟩ := trodAll_cons hA
  obtain ⟨v1, vs1, d1, ds1, p1, q1, rfl, rfl, rfl, h1, r1⟩ := trodAll_cons r0
  obtain ⟨rfl, rfl, rfl⟩ := trodAll_nil r1
  obtain rfl : args = #[v0, v1] := by cases args; simp_all
  obtain ⟨rfl, rfl⟩ := trodVars_none hV
  obtain ⟨a0, rfl, rfl, rfl, w0⟩ := open_int Yba.underlying22 (hval 0 22 v0 rfl rfl) h0
  obtain ⟨a1, rfl, rfl, rfl, w1⟩ := open_int Yba.underlying22 (hval 1 22 v1 rfl rfl) h1
  clear hA0 hval0
  simp only [List.append_nil] at hW'
  refine (walk a0 a1 w0 w1 W).mono fun e W' ⟨he, hg⟩ => ?_
  subst he
  exact ⟨_, rfl, post_of_same (pa := []) (pv := []) hW' (fun _ _ _ => (trodAll_cons_mk (shut_bool Yba.underlying4 _) trodAll_mk0)) (fun sp _ => (trodAll_cons_mk (shut_int Yba.underlying22 w0) (trodAll_cons_mk (shut_int Yba.underlying22 w1) trodAll_mk0))) (fun _ _ => rfl) rfl
    (hg.frame _) hg.2.1 (ok_one (by kernel_rfl) rfl (okWide_bool_mk Yba.underlying4 _))⟩

theorem over : Rows.lawS1482AMemberRow.holds Yba.pinned (OpenSpec.ofChange Rows.lawS1482AMemberSpec) :=
  OpenClaim.holds_of_wide 4 Yba.f4 rfl rfl rfl rfl rfl rfl rfl ⟨rfl, rfl, rfl, rfl, rfl⟩ rfl rfl rfl rfl rfl (by kernel_rfl) Yba.func4 (by kernel_rfl)
    (of_decide_eq_true (by kernel_rfl)) (by unfold Func.isWrapper; first | (rw [if_pos (by decide +kernel)]; kernel_rfl) | (rw [if_neg (by decide +kernel)]; exact ⟨rfl, rfl⟩))
    (fun os started H enc _ => lifted os started H enc)

/-- ████ THE STATEMENT ████ -/
theorem proved : Rows.LawS1482AMemberSaid :=
  over
end Go.Proofs.Ybulkadra.lawS1482AMember
namespace Go.Proofs.Ybulkadra
theorem member_holds : Rows.LawS1482AMemberSaid := lawS1482AMember.proved
end Go.Proofs.Ybulkadra
