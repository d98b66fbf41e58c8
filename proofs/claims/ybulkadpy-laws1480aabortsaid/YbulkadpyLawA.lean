/-
  LawS1480AAbort: the walk.
-/
import Derived.Test.YbulkadpyInv
namespace Go.Proofs.Ybulkadpy
open Go.RowKit
open Go.ChangeMaps (setBlock)

theorem after_r {w : World} {num : Int} {len : Nat} {ds : List D} {wr w2 : World} {L : List Ent} {v : Value} (h : Inv1 w num len ds wr L v) (hc : Chg (fun b => b = w.heap.size ∨ Turn w.heap.size L b) wr w2) :
    w2.heap[w.heap.size + 1]? = some (.cells (rC w.heap.size) 36 (0, 0)) := hc.keep h.hr (by
  rintro (h1 | h1 | h1 | ⟨e, he, h1⟩)
  · omega
  · omega
  · omega
  · have := h.items.ge e he; omega)

/-- What the second loop reads at k. -/
theorem round2 {w : World} {num : Int} {len : Nat} {ds : List D} {wr w2 wx : World} {L : List Ent} {v : Value} (h : Inv1 w num len ds wr L v) (hC : Core w.heap.size w2 num 2 (.slice none 0 0) [] L.length) (hI : Items w.heap.size w2 L L.length)
    (hc : Chg (fun b => b = w.heap.size ∨ Turn w.heap.size L b) wr w2) (hx : Chg (fun _ => False) w2 wx) (hL : L.length = len) (k : Nat) (hk : k < len) :
    ∃ e : Ent, ds[k]? = some ⟨e.mode, e.other, e.excl, e.aw⟩ ∧ wx.cell? ⟨w.heap.size + 1 + 1 + 1 + 1 + 1, k, none⟩ = some (.pointer (some ⟨e.I, 0, none⟩)) ∧ wx.heap[e.I]? = some (.cells (itemC e.M (.pointer none) false) 68 (0, 0)) ∧ wx.heap[e.M]? = some (.map (e.er w.heap.size) e.clk) ∧
      Pl wx (w.heap.size + 2) ∧ Pl wx (w.heap.size + 4) ∧ Below w.heap.size w wx := by
  obtain ⟨e, he⟩ : ∃ e, L[k]? = some e := ⟨_, List.getElem?_eq_getElem (by omega)⟩
  have h1 := hI.at_ k e he
  rw [if_pos (by omega), if_pos (by omega)] at h1
  have hS : ∀ b, b < w.heap.size ∨ b = w.heap.size + 5 → ¬ (b = w.heap.size ∨ Turn w.heap.size L b) := by
    rintro b hb (h1 | h1 | h1 | ⟨f, hf, h1⟩)
    · omega
    · omega
    · omega
    · have := h.items.ge f hf; omega
  have h5 : wx.heap[w.heap.size + 5]? = some (.cells (itsC L len) 57 (0, 0)) := hx.keep (hc.keep h.its (hS _ (.inr rfl))) (fun h => h)
  refine ⟨e, h.dat k e he, cell_of (b := w.heap.size + 1 + 1 + 1 + 1 + 1) h5 ?_, hx.keep h1.1 (fun h => h), hx.keep h1.2 (fun h => h), ⟨_, _, hx.keep hC.hT (fun h => h)⟩, ⟨_, _, hx.keep hC.hO (fun h => h)⟩, h.below.trans ((hc.below (B := w.heap.size) h.below.size (fun b hb => hS b (.inl hb))).trans (hx.below (B := w.heap.size) (Nat.le_trans h.below.size hc.size) (fun _ _ h => h)))⟩
  unfold itsC
  rw [List.getElem?_toArray, List.getElem?_append_left (by simp; omega)]
  simp [he, Ent.ptr]

theorem er_size (N : Nat) (e : Ent) : ((e.er N).size : Int) = if e.other then 1 else 0 := by
  unfold Ent.er
  cases e.other <;> rfl

theorem below2 {w : World} {num : Int} {len : Nat} {ds : List D} {wr w2 wx : World} {L : List Ent} {v : Value} (h : Inv1 w num len ds wr L v) (hc : Chg (fun b => b = w.heap.size ∨ Turn w.heap.size L b) wr w2) (hx : Chg (fun _ => False) w2 wx) : Below w.heap.size w wx := by
  have hS : ∀ b, b < w.heap.size → ¬ (b = w.heap.size ∨ Turn w.heap.size L b) := by
    rintro b hb (h1 | h1 | h1 | ⟨f, hf, h1⟩)
    · omega
    · omega
    · omega
    · have := h.items.ge f hf; omega
  exact h.below.trans ((hc.below (B := w.heap.size) h.below.size (fun b hb => hS b hb)).trans (hx.below (B := w.heap.size) (Nat.le_trans h.below.size hc.size) (fun _ _ h => h)))

theorem zero69 (w : World) : (zeroValue 69).run Yba.prog w = .ok (.int .u8 0) w := by kernel_rfl

/-- 'it.holders[&t.locker]' behind the release. -/
theorem lookup_gone (N : Nat) (W : World) (e : Ent) (hM : W.heap[e.M]? = some (.map (e.er N) e.clk)) (h2 : Pl W (N + 2)) (h4 : Pl W (N + 4)) :
    (Instr.lookup 58 (.map (some e.M)) (.pointer (some ⟨N + 2, 0, none⟩)) true).run Yba.prog W = .ok (.tuple #[.int .u8 0, .bool false]) W := by
  obtain ⟨j48, hj48, hz48⟩ := info_of Yba.info48 (by decide)
  refine run_lookup_none Yba.underlying58 (zero69 W) Yba.underlying54 hj48 hz48 h2 hM ?_ ?_
  · unfold Ent.er
    cases e.other
    · simp
    · intro x hx; simp at hx; subst hx; exact ⟨⟨N + 4, 0, none⟩, rfl, h4⟩
  · unfold Ent.er
    cases e.other
    · rfl
    · simp [pfind, op]

set_option maxRecDepth 100000 in
set_option maxHeartbeats 1000000 in
theorem law_start (num : Int) (ao : Option Addr) (len cap : Nat) (ds : List D) (w : World) (hlen : len ≤ 256) (hds : ds.length = len) 
    (hin : ∀ (i : Nat) (d : D), ds[i]? = some d → ∃ b off, ao = some ⟨b, off, none⟩ ∧ b < w.heap.size ∧ len ≤ cap ∧ w.cell? ⟨b, off + i * 4, none⟩ = some (.int .u8 d.mode) ∧ w.cell? ⟨b, off + i * 4 + 1, none⟩ = some (.bool d.other) ∧ w.cell? ⟨b, off + i * 4 + 2, none⟩ = some (.bool d.excl) ∧ w.cell? ⟨b, off + i * 4 + 3, none⟩ = some (.bool d.aw)) :
    Calls Yba.prog 3 #[.int .i64 num, .slice ao len cap] w fun e w' => e = .returned (.bool true) ∧ Below w.heap.size w w' := by
  obtain ⟨i0, hi, hz0, hz1, hz2⟩ := info_parts Yba.info57
  have hmm := @run_makeMap Yba.prog
  have h256 : decide ((256 : Int) < (len : Int)) = false := decide_eq_false (by omega)
  have HIN : Hid (∀ (i : Nat) (d : D), ds[i]? = some d → ∃ b off, ao = some ⟨b, off, none⟩ ∧ b < w.heap.size ∧ len ≤ cap ∧ w.cell? ⟨b, off + i * 4, none⟩ = some (.int .u8 d.mode) ∧ w.cell? ⟨b, off + i * 4 + 1, none⟩ = some (.bool d.other) ∧ w.cell? ⟨b, off + i * 4 + 2, none⟩ = some (.bool d.excl) ∧ w.cell? ⟨b, off + i * 4 + 3, none⟩ = some (.bool d.aw)) := hin
  have HI57 : Hid (Yba.prog.info? 57 = some i0 ∧ i0.zero = some (.pointer none) ∧ i0.size = 1 ∧ i0.bytes = 8) := ⟨hi, hz0, hz1, hz2⟩
  have HDS : Hid (ds.length = len) := hds
  clear hin hds hi hz0 hz1 hz2
  go_enter Yba.func3, Yba.ntmps3
  go_wp2_with (at_make; refine wpList_make_full _ rfl _ _ 44 rfl (w.heap.size + 5) 57 i0 (.pointer none) 1 Yba.underlying44 HI57.out.1 HI57.out.2.1 HI57.out.2.2.1 _ _ _ _ len rfl rfl rfl rfl ?b2 ?b3 (by simp) ?_)
  case b2 => rw [HI57.out.2.2.2]; omega
  case b3 => unfold maxLen; omega
  intro w0 hown0 hgrow0
  have hst : Inv1 w num len ds w0 [] (.slice none 0 0) := inv_start w num len ds w0 hgrow0 (by simpa using hown0)
  have HST : Hid (Inv1 w num len ds w0 [] (.slice none 0 0)) := hst
  clear hst hown0 hgrow0
  go_wp2
  go_loopw [48] (fun vk wr => ∃ (L : List Ent) (v : Value), L.length ≤ len ∧ vk = .int .i64 L.length ∧ Inv1 w num len ds wr L v) (fun vk _ => len - (intOf vk).toNat)
  case atStart => exact ⟨[], _, Nat.zero_le _, rfl, HST.out⟩
  case round =>
    clear HST
    obtain ⟨L, v, hk, rfl, hinv⟩ := hrel
    have HV : Hid (Inv1 w num len ds wr L v) := hinv
    clear hinv
    by_cases hlt : L.length < len
    · obtain ⟨d, hd⟩ : ∃ d, ds[L.length]? = some d := ⟨_, List.getElem?_eq_getElem (by rw [HDS.out]; exact hlt)⟩
      obtain ⟨b, off, rfl, hb, hcap, i0', i1, i2, i3⟩ := HIN.out _ d hd
      have j0 : wr.cell? ⟨b, off + L.length * 4, none⟩ = some (.int .u8 d.mode) := (HV.out.below.cell (p := ⟨b, off + L.length * 4, none⟩) hb).trans i0'
      have j1 : wr.cell? ⟨b, off + L.length * 4 + 1, none⟩ = some (.bool d.other) := (HV.out.below.cell (p := ⟨b, off + L.length * 4 + 1, none⟩) hb).trans i1
      have j2 : wr.cell? ⟨b, off + L.length * 4 + 2, none⟩ = some (.bool d.excl) := (HV.out.below.cell (p := ⟨b, off + L.length * 4 + 2, none⟩) hb).trans i2
      have j3 : wr.cell? ⟨b, off + L.length * 4 + 3, none⟩ = some (.bool d.aw) := (HV.out.below.cell (p := ⟨b, off + L.length * 4 + 3, none⟩) hb).trans i3
      have HD : Hid (ds[L.length]? = some d) := hd
      clear hd i0' i1 i2 i3 HIN
      obtain ⟨dm, dO, dx, da⟩ := d
      have hpt : Pl wr (w.heap.size + 1 + 1) := ⟨_, _, HV.out.core.hT⟩
      have hpo : Pl wr (w.heap.size + 1 + 1 + 1 + 1) := ⟨_, _, HV.out.core.hO⟩
      have hup1 := fun it => update_mid wr (.cells #[.int .u8 dm, .bool dO, .bool dx, .bool da] 56) it #[] 0 ⟨w.heap.size + 1 + 1, 0, none⟩ (.int .u8 dm) hpt (by simp) rfl
      have hup2 := fun it => update_mid wr (.cells #[.int .u8 dm, .bool dO, .bool dx, .bool da] 56) it #[⟨.pointer (some ⟨w.heap.size + 1 + 1, 0, none⟩), .int .u8 dm, 0⟩] 1 ⟨w.heap.size + 1 + 1 + 1 + 1, 0, none⟩ (.int .u8 1) hpo (by intro e he; simp at he; subst he; exact ⟨_, rfl, hpt⟩) (by simp [pfind])
      clear hpt hpo
      have hT0 : w.heap.size + 1 + 1 < wr.heap.size := heap_lt HV.out.core.hT
      have hT1 : w.heap.size + 1 + 1 < wr.heap.size + 1 := by omega
      have hT2 : w.heap.size + 1 + 1 < wr.heap.size + 1 + 1 := by omega
      have hT3 : w.heap.size + 1 + 1 < wr.heap.size + 1 + 1 + 1 := by omega
      have h5lt : w.heap.size + 5 < wr.heap.size := heap_lt HV.out.its
      have c4 : wr.cell? ⟨w.heap.size + 1 + 1, 4, none⟩ = some v := cell_of HV.out.core.hT rfl
      obtain ⟨j68, hj68, hz68⟩ := info_of Yba.info68 (by decide)
      have HJ : Hid (Yba.prog.info? 68 = some j68) := hj68
      obtain ⟨e, hee⟩ : ∃ e : Ent, e = ⟨wr.heap.size + 2, wr.heap.size + 1, dm, dO, dx, da⟩ := ⟨_, rfl⟩
      have HE : Hid (e = ⟨wr.heap.size + 2, wr.heap.size + 1, dm, dO, dx, da⟩) := hee
      have HNE : Hid (∀ f ∈ L, f.I ≠ e.I) := fun f hf => by
        obtain ⟨i, hi⟩ := List.mem_iff_getElem?.1 hf
        have h1 := heap_lt (HV.out.items.at_ i f hi).1
        rw [hee]
        simp
        omega
      clear hj68 hee
      cases dO
      all_goals cases dx
      all_goals go_wp2
      all_goals go_region
      all_goals go_wp2_with (first
        | (at_builtin; refine wpList_append_own _ rfl _ _ 44 rfl (w.heap.size + 6) 57 i0 (.pointer none) 1 8 Yba.underlying44 HI57.out.1 HI57.out.2.1 HI57.out.2.2.1 HI57.out.2.2.2 rfl (by decide) v L.length (L.map Ent.ptr) rfl (((((HV.out.held.alloc _).alloc _).alloc _).alloc _).drew) ⟨wr.heap.size + 1 + 1 + 1, 0, none⟩ 1 1 [.pointer (some ⟨wr.heap.size + 1 + 1, 0, none⟩)] rfl rfl (lit4 _ _ _ _ _ _) (ptr_one _) (by unfold maxLen; omega) (by omega) (by rw [size4]; omega) ?_; intro v' w1 hown1 hgrow1 _; have hs1 : Stg w num ds w1 (L ++ [e]) v v' (awE 0 L) L.length (itsC L len) := Stg.append HV.out e (by rw [HE.out]) (by rw [HE.out]) (((((Chg.refl (fun _ => False) wr).alloc _).alloc _).alloc _).alloc _).drew (by rw [HE.out]; exact (three _ _ _ _ _).1) (by rw [HE.out]; exact (three _ _ _ _ _).2) hgrow1 (by rw [HE.out]; exact hown1) (by rw [HE.out]; exact HD.out); obtain ⟨a9, c9, hv9, _⟩ := owns_form hown1; rw [hv9] at hs1; rw [hv9]; clear hv9 hown1 hgrow1; obtain ⟨k1, k2, k3⟩ := hs1.cells; have HS2 : Hid (Stg w num ds (w1.setCell ⟨w.heap.size + 2, 4, none⟩ (.slice a9 (L.length + 1) c9)) (L ++ [e]) (.slice a9 (L.length + 1) c9) (.slice a9 (L.length + 1) c9) (awE 0 L) L.length (itsC L len)) := hs1.setT _; clear hs1)
        | (at_mapUpdate; refine wpList_update_raw _ rfl _ _ _ 45 57 70 68 j68 rfl Yba.underlying45 Yba.underlying57 HJ.out hz68 (w.heap.size + 3) (awE 0 L).toArray L.length ⟨wr.heap.size + 1 + 1, 0, none⟩ (.agg #[]) rfl rfl rfl (by have := (HS2.out.fresh HNE.out).1; rw [HE.out] at this; exact this) (HS2.out.fresh HNE.out).2.1 (HS2.out.fresh HNE.out).2.2.1 (by have := (HS2.out.fresh HNE.out).2.2.2; rw [HE.out] at this; exact this) ?_; intro w3 h3 hc3 hs3; have hs4 : Stg w num ds w3 (L ++ [e]) (.slice a9 (L.length + 1) c9) (.slice a9 (L.length + 1) c9) (awE 0 (L ++ [e])) (L.length + 1) (itsC L len) := HS2.out.setA (by rw [← aw_push, HE.out]; exact h3) hc3; obtain ⟨k4, k5⟩ := hs4.itsCell hlt; have HS4 : Hid (Stg w num ds (w3.setCell ⟨w.heap.size + 5, L.length, none⟩ e.ptr) (L ++ [e]) (.slice a9 (L.length + 1) c9) (.slice a9 (L.length + 1) c9) (awE 0 (L ++ [e])) (L.length + 1) (itsC (L ++ [e]) len)) := (by rw [← its_step L len e hlt]; exact hs4.setIts _ _); clear hs4 hc3 h3 hs3 k1 k2 k3 HS2))
      all_goals
        go_roundw
        case rel => exact ⟨L ++ [e], _, by simp; omega, by simp, (by have h := inv_close HS4.out; rw [HE.out] at h ⊢; exact h)⟩
        case measure => simp [intOf]; omega
    · have hkk : L.length = len := by omega
      have hinv := HV.out
      have HAB : Hid (Calls Yba.prog 5 #[.pointer (some ⟨w.heap.size + 1, 0, none⟩), .pointer (some ⟨w.heap.size + 2, 0, none⟩)] wr fun e w' => e = .returned (.tuple #[]) ∧
          ∃ g cap cur, w'.heap[w.heap.size]? = some (.cells #[.slice (some ⟨g, 0, none⟩) 1 cap, .int .i64 0] 26 (0, 0)) ∧ 1 ≤ cap ∧ w'.heap[g]? = some (.cells cur 51 (0, 0)) ∧ (∀ (i : Nat) (x : Value), (opC num)[i]? = some x → cur[i]? = some x) ∧
            Core w.heap.size w' num 2 (.slice none 0 0) [] L.length ∧ Items w.heap.size w' L L.length ∧ Chg (fun b => b = w.heap.size ∨ Turn w.heap.size L b) wr w') := abort_any w.heap.size wr num v L (by omega) hinv.hR hinv.hr hinv.core hinv.items hinv.held
      clear hinv
      go_wp2_with (go_at_call 5; refine HAB.out.mono ?_; rintro e w2 ⟨rfl, g, cg, cur, a1, a2, a3, a4, a5, a6, a7⟩; have t2 : w2.cell? ⟨w.heap.size + 1 + 1, 2, none⟩ = some (.int .u8 2) := cell_of a5.hT rfl; have t4 : w2.cell? ⟨w.heap.size + 1 + 1, 4, none⟩ = some (.slice none 0 0) := cell_of a5.hT rfl; have t5 : w2.cell? ⟨w.heap.size + 1 + 1, 5, none⟩ = some (.map (some (w.heap.size + 3))) := cell_of a5.hT rfl; have t6 : w2.cell? ⟨w.heap.size + 1 + 1, 6, none⟩ = some (.pointer none) := cell_of a5.hT rfl; have hlm : ∀ ty, (Builtin.len_ #[45] ty #[.map (some (w.heap.size + 3))]).run Yba.prog w2 = .ok (.int .i64 0) w2 := fun ty => run_len_map ty Yba.underlying45 a5.hA; have hr2 : w2.heap[w.heap.size + 1]? = some (.cells (rC w.heap.size) 36 (0, 0)) := after_r HV.out a7; have r3 : w2.cell? ⟨w.heap.size + 1, 3, none⟩ = some (.slice none 0 0) := cell_of hr2 rfl; have n0 : w2.cell? ⟨w.heap.size, 0, none⟩ = some (.slice (some ⟨g, 0, none⟩) 1 cg) := cell_of a1 rfl; have n1 : w2.cell? ⟨w.heap.size, 1, none⟩ = some (.int .i64 0) := cell_of a1 rfl; have g0 : w2.cell? ⟨g, 0, none⟩ = some (.int .u8 4) := cell_of a3 (a4 0 _ rfl); have g1 : w2.cell? ⟨g, 1, none⟩ = some (.int .i64 num) := cell_of a3 (a4 1 _ rfl); have g2 : w2.cell? ⟨g, 2, none⟩ = some (.string ⟨#[]⟩) := cell_of a3 (a4 2 _ rfl); have H2 : Hid (Core w.heap.size w2 num 2 (.slice none 0 0) [] L.length ∧ Items w.heap.size w2 L L.length ∧ Chg (fun b => b = w.heap.size ∨ Turn w.heap.size L b) wr w2) := ⟨a5, a6, a7⟩; clear a1 a2 a3 a4 a5 a6 a7 hr2)
      have HG : Hid (L.length = len) := hkk
      clear hkk t2 t4 t5 t6 hlm r3 n0 n1 g0 g1 g2 HAB hlt hk
      go_loopw [176] (fun vk wx => ∃ k : Nat, k ≤ len ∧ vk = .int .i64 k ∧ Chg (fun _ => False) w2 wx) (fun vk _ => len - (intOf vk).toNat)
      case atStart => exact ⟨0, Nat.zero_le _, rfl, Chg.refl _ _⟩
      case round =>
        obtain ⟨k, hk, rfl, hx⟩ := hrel
        have HX : Hid (Chg (fun _ => False) w2 wr) := hx
        clear hx
        by_cases hlt : k < len
        · obtain ⟨e, e1, e2, e3, e4, e5, e6, e7⟩ := round2 HV.out H2.out.1 H2.out.2.1 H2.out.2.2 HX.out HG.out k hlt
          obtain ⟨b, off, rfl, hb, hcap, i0', i1, i2, i3⟩ := HIN.out _ _ e1
          have j0 : wr.cell? ⟨b, off + k * 4, none⟩ = some (.int .u8 e.mode) := (e7.cell (p := ⟨b, off + k * 4, none⟩) hb).trans i0'
          have j1 : wr.cell? ⟨b, off + k * 4 + 1, none⟩ = some (.bool e.other) := (e7.cell (p := ⟨b, off + k * 4 + 1, none⟩) hb).trans i1
          have j2 : wr.cell? ⟨b, off + k * 4 + 2, none⟩ = some (.bool e.excl) := (e7.cell (p := ⟨b, off + k * 4 + 2, none⟩) hb).trans i2
          have j3 : wr.cell? ⟨b, off + k * 4 + 3, none⟩ = some (.bool e.aw) := (e7.cell (p := ⟨b, off + k * 4 + 3, none⟩) hb).trans i3
          have hIl : e.I < wr.heap.size := heap_lt e3
          have h5l : w.heap.size + 1 + 1 + 1 + 1 + 1 < wr.heap.size := Lib.lt_of_cell e2
          have q0 : wr.cell? ⟨e.I, 0, none⟩ = some (.map (some e.M)) := cell_of e3 rfl
          have q1 : wr.cell? ⟨e.I, 1, none⟩ = some (.pointer none) := cell_of e3 rfl
          have q13 : wr.cell? ⟨e.I, 13, none⟩ = some (.bool false) := cell_of e3 rfl
          have hlk : ∀ (o : Obj) (n : Nat), (Instr.lookup 58 (.map (some e.M)) (.pointer (some ⟨w.heap.size + 1 + 1, 0, none⟩)) true).run Yba.prog ((wr.alloc o).drewN n) = .ok (.tuple #[.int .u8 0, .bool false]) ((wr.alloc o).drewN n) := fun o n => by
            have hcc : Chg (fun _ => False) wr ((wr.alloc o).drewN n) := ((Chg.refl _ _).alloc _).drewN _
            exact lookup_gone w.heap.size _ e (hcc.keep e4 (fun h => h)) (e5.mono hcc (fun h => h)) (e6.mono hcc (fun h => h))
          have hln : ∀ (o : Obj) (n : Nat) ty, (Builtin.len_ #[58] ty #[.map (some e.M)]).run Yba.prog ((wr.alloc o).drewN n) = .ok (.int .i64 (if e.other then 1 else 0)) ((wr.alloc o).drewN n) := fun o n ty => by
            have hcc : Chg (fun _ => False) wr ((wr.alloc o).drewN n) := ((Chg.refl _ _).alloc _).drewN _
            rw [run_len_map ty Yba.underlying58 (hcc.keep e4 (fun h => h)), er_size]
          have HN : Hid (∀ (o : Obj) (n : Nat), Chg (fun _ => False) w2 ((wr.alloc o).drewN n)) := fun o n => (HX.out.alloc _).drewN _
          obtain ⟨eI, eM, em, eo, ex, ea⟩ := e
          clear e1 e3 e4 e5 e6 e7 i0' i1 i2 i3
          cases eo
          all_goals
            go_wp2
            go_quiet (fail)
            go_wp2
            go_roundw
            case rel => exact ⟨k + 1, by omega, by go_num, HN.out _ _⟩
            case measure => simp [intOf]; omega
        · have HF : Hid (Below w.heap.size w wr) := below2 HV.out H2.out.2.2 HX.out
          go_wp2
          go_ret
          exact ⟨rfl, HF.out⟩

end Go.Proofs.Ybulkadpy
