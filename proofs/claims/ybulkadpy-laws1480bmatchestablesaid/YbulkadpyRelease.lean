/-
  (*lockItem).release at an item for which nobody waits.
-/
import Derived.Test.YbulkadpyGrant
namespace Go.Proofs.Ybulkadpy
open Go.RowKit
open Go.ChangeMaps (setBlock)

theorem Idle.to {w w' : World} {es : Array MapEntry} {c : Nat} (h : Idle w es c) (hw : ∀ b, w.cell? ⟨b, 5, none⟩ = some (.map none) → w'.cell? ⟨b, 5, none⟩ = some (.map none)) : Idle w' es c :=
  ⟨fun x hx => by obtain ⟨b, h1, h2⟩ := h.1 x hx; exact ⟨b, h1, hw b h2⟩, h.2.1, h.2.2⟩

/-- 'Idle' stands over what turns maps and a block whose cell 5 is no nil map. -/
theorem Idle.chg {S : Nat → Prop} {w w' : World} {es : Array MapEntry} {c : Nat} (h : Idle w es c) (hc : Chg S w w') (hs : ∀ b, S b → w.cell? ⟨b, 5, none⟩ ≠ some (.map none)) : Idle w' es c :=
  h.to fun b hb => (World.cell?_of_block (w := w) (a := ⟨b, 5, none⟩) (hc.block b (Lib.lt_of_cell hb) (fun hS => hs b hS hb))).trans hb

theorem cell_map_none {w : World} {r : Nat} {es : Array MapEntry} {c : Nat} (h : w.heap[r]? = some (.map es c)) (o : Nat) : w.cell? ⟨r, o, none⟩ = none := by
  simp [World.cell?, h]

theorem Yba.info48 : (Yba.prog.info? 48).map (·.size) = some 7 := by kernel_rfl
theorem Yba.info68 : (Yba.prog.info? 68).map (·.size) = some 14 := by kernel_rfl

theorem info_of {t n : Nat} (h : (Yba.prog.info? t).map (·.size) = some n) (hn : n ≠ 0) : ∃ j, Yba.prog.info? t = some j ∧ j.size ≠ 0 := by
  cases hj : Yba.prog.info? t with
  | none => rw [hj] at h; cases h
  | some j => rw [hj] at h; simp at h; exact ⟨j, rfl, by omega⟩

/-- What release is given. -/
structure RelPre (w : World) (I M T A : Nat) (ex : Value) (aw : Bool) (es : Array MapEntry) (c : Nat) (tc : Array Value) (tt : TypeId) (ea : Array MapEntry) (ca : Nat) : Prop where
  hI : w.heap[I]? = some (.cells (itemC M ex aw) 68 (0, 0))
  hM : w.heap[M]? = some (.map es c)
  hT : w.heap[T]? = some (.cells tc tt (0, 0))
  hA : w.heap[A]? = some (.map ea ca)
  tA : tc[5]? = some (.map (some A))
  hex : ex = .pointer none ∨ ex = .pointer (some ⟨T, 0, none⟩)
  ke : ∀ e ∈ es.toList, ∃ b, e.key = .pointer (some b) ∧ Pl w b.block
  ka : ∀ e ∈ ea.toList, ∃ b, e.key = .pointer (some b) ∧ Pl w b.block
  fe : ∃ v, pfind ⟨T, 0, none⟩ es.toList 0 = some (0, v)
  fa : ∃ v, pfind ⟨I, 0, none⟩ ea.toList 0 = some (0, v)
  ne : M ≠ A
  idle : Idle w (es.eraseIdxIfInBounds 0) c

set_option maxRecDepth 100000 in
set_option maxHeartbeats 1000000 in
theorem release_any (w : World) (I M T A : Nat) (ex : Value) (aw : Bool) (es : Array MapEntry) (c : Nat) (tc : Array Value) (tt : TypeId) (ea : Array MapEntry) (ca : Nat) (h : RelPre w I M T A ex aw es c tc tt ea ca) :
    Calls Yba.prog 24 #[.pointer (some ⟨I, 0, none⟩), .pointer (some ⟨T, 0, none⟩)] w fun e w' => e = .returned (.slice none 0 0) ∧ w'.heap[I]? = some (.cells (itemC M (.pointer none) false) 68 (0, 0)) ∧
      w'.heap[M]? = some (.map (es.eraseIdxIfInBounds 0) c) ∧ w'.heap[A]? = some (.map (ea.eraseIdxIfInBounds 0) ca) ∧ Chg (fun b => b = I ∨ b = M ∨ b = A) w w' := by
  obtain ⟨j48, hj48, hz48⟩ := info_of Yba.info48 (by decide)
  obtain ⟨j68, hj68, hz68⟩ := info_of Yba.info68 (by decide)
  obtain ⟨v1, fe⟩ := h.fe
  obtain ⟨v2, fa⟩ := h.fa
  have c0 : w.cell? ⟨I, 0, none⟩ = some (.map (some M)) := cell_of h.hI rfl
  have H : Hid (RelPre w I M T A ex aw es c tc tt ea ca) := h
  have FE : Hid (pfind ⟨T, 0, none⟩ es.toList 0 = some (0, v1)) := fe
  have FA : Hid (pfind ⟨I, 0, none⟩ ea.toList 0 = some (0, v2)) := fa
  have HJ : Hid (Yba.prog.info? 48 = some j48) := hj48
  have HJ2 : Hid (Yba.prog.info? 68 = some j68) := hj68
  have hMI : M ≠ I := fun e => by have h1 := h.hI; rw [← e, h.hM] at h1; cases h1
  have hMT : M ≠ T := fun e => by have h1 := h.hT; rw [← e, h.hM] at h1; cases h1
  have hAI : A ≠ I := fun e => by have h1 := h.hI; rw [← e, h.hA] at h1; cases h1
  have hAT : A ≠ T := fun e => by have h1 := h.hT; rw [← e, h.hA] at h1; cases h1
  have hAM : A ≠ M := fun e => h.ne e.symm
  clear h fe fa hj48 hj68
  go_enter Yba.func24, Yba.ntmps24
  go_wp2_with (at_delete; refine wpList_delete_raw _ rfl _ _ 58 54 69 48 j48 rfl Yba.underlying58 Yba.underlying54 HJ.out hz48 M es c ⟨T, 0, none⟩ rfl rfl ⟨_, _, H.out.hT⟩ H.out.hM H.out.ke 0 v1 FE.out ?_)
  intro w1 hM1 hC1 hs1
  have hI1 : w1.heap[I]? = some (.cells (itemC M ex aw) 68 (0, 0)) := hC1.keep H.out.hI (Ne.symm hMI)
  have hT1 : w1.heap[T]? = some (.cells tc tt (0, 0)) := hC1.keep H.out.hT (Ne.symm hMT)
  have hA1 : w1.heap[A]? = some (.map ea ca) := hC1.keep H.out.hA hAM
  have c5 : w1.cell? ⟨T, 5, none⟩ = some (.map (some A)) := cell_of hT1 H.out.tA
  have KA : Hid (∀ e ∈ ea.toList, ∃ b, e.key = .pointer (some b) ∧ Pl w1 b.block) := fun e he => by
    obtain ⟨b, h1, cc, ct, h2⟩ := H.out.ka e he
    exact ⟨b, h1, cc, ct, hC1.keep h2 (fun e2 => by rw [e2, H.out.hM] at h2; cases h2)⟩
  have H1 : Hid (w1.heap[I]? = some (.cells (itemC M ex aw) 68 (0, 0)) ∧ w1.heap[M]? = some (.map (es.eraseIdxIfInBounds 0) c) ∧ w1.heap[A]? = some (.map ea ca) ∧ Chg (fun b => b = M) w w1 ∧ w1.heap[T]? = some (.cells tc tt (0, 0))) := ⟨hI1, hM1, hA1, hC1, hT1⟩
  clear hI1 hM1 hA1 hC1 hs1 hT1
  go_wp2_with (at_delete; refine wpList_delete_raw _ rfl _ _ 45 57 70 68 j68 rfl Yba.underlying45 Yba.underlying57 HJ2.out hz68 A ea ca ⟨I, 0, none⟩ rfl rfl ⟨_, _, H1.out.1⟩ H1.out.2.2.1 KA.out 0 v2 FA.out ?_)
  intro w2 hA2 hC2 hs2
  have hI2 : w2.heap[I]? = some (.cells (itemC M ex aw) 68 (0, 0)) := hC2.keep H1.out.1 (Ne.symm hAI)
  have hM2 : w2.heap[M]? = some (.map (es.eraseIdxIfInBounds 0) c) := hC2.keep H1.out.2.1 (Ne.symm hAM)
  have hC : Chg (fun b => b = I ∨ b = M ∨ b = A) w w2 := (H1.out.2.2.2.1.mono (fun _ _ h => .inr (.inl h))).trans (hC2.mono (fun _ _ h => .inr (.inr h)))
  have hid : Idle w2 (es.eraseIdxIfInBounds 0) c := H.out.idle.chg hC (fun b hb => by
    rcases hb with rfl | rfl | rfl
    · rw [cell_of (o := 5) H.out.hI (v := .pointer none) rfl]; intro e; cases e
    · rw [cell_map_none H.out.hM]; intro e; cases e
    · rw [cell_map_none H.out.hA]; intro e; cases e)
  have c1 : w2.cell? ⟨I, 1, none⟩ = some ex := cell_of hI2 rfl
  have f1 : w2.frozen? ⟨I, 1, none⟩ = false := frozen_of hI2
  have HEX := H.out.hex
  have HH : Hid (w2.heap[I]? = some (.cells (itemC M ex aw) 68 (0, 0)) ∧ w2.heap[M]? = some (.map (es.eraseIdxIfInBounds 0) c) ∧ w2.heap[A]? = some (.map (ea.eraseIdxIfInBounds 0) ca) ∧ Chg (fun b => b = I ∨ b = M ∨ b = A) w w2 ∧ Idle w2 (es.eraseIdxIfInBounds 0) c) := ⟨hI2, hM2, hA2, hC, hid⟩
  clear hI2 hM2 hA2 hC hid hC2 hs2 H1 KA c5 c0
  rcases HEX with rfl | rfl
  · have hq : ∀ W : World, (binOp .eql 54 (.pointer none) (.pointer (some ⟨T, 0, none⟩))).run Yba.prog W = .ok (.bool false) W := fun _ => by kernel_rfl
    go_wp2_with fail
    refine (grant_any I M _ aw _ c _ HH.out.1 HH.out.2.1 HH.out.2.2.2.2).mono ?_
    rintro e w3 ⟨rfl, hI3, hC3⟩
    have HF : Hid (w3.heap[I]? = some (.cells (itemC M (.pointer none) false) 68 (0, 0)) ∧ w3.heap[M]? = some (.map (es.eraseIdxIfInBounds 0) c) ∧ w3.heap[A]? = some (.map (ea.eraseIdxIfInBounds 0) ca) ∧ Chg (fun b => b = I ∨ b = M ∨ b = A) w w3) :=
      ⟨hI3, hC3.keep HH.out.2.1 hMI, hC3.keep HH.out.2.2.1 hAI, HH.out.2.2.2.1.trans (hC3.mono (fun _ _ h => .inl h))⟩
    clear hI3 hC3
    go_wp2
    go_ret
    exact ⟨rfl, HF.out⟩
  · have hq : ∀ W : World, (binOp .eql 54 (.pointer (some ⟨T, 0, none⟩)) (.pointer (some ⟨T, 0, none⟩))).run Yba.prog W = .ok (.bool true) W := fun W => run_eql_ptr_same W _ Yba.underlying54 HJ.out
    go_wp2_with fail
    have hIx : (w2.setCell ⟨I, 1, none⟩ (.pointer none)).heap[I]? = some (.cells (itemC M (.pointer none) aw) 68 (0, 0)) := heap_setCell_same HH.out.1 _
    have hCx : Chg (fun b => b = I) w2 (w2.setCell ⟨I, 1, none⟩ (.pointer none)) := (Chg.refl (fun b => b = I) _).setCell ⟨I, 1, none⟩ rfl _
    refine (grant_any I M _ aw _ c _ hIx (hCx.keep HH.out.2.1 hMI) (HH.out.2.2.2.2.chg hCx (fun b hb => by cases hb; rw [cell_of (o := 5) HH.out.1 (v := .pointer none) rfl]; intro e; cases e))).mono ?_
    rintro e w3 ⟨rfl, hI3, hC3⟩
    have hC4 : Chg (fun b => b = I) w2 w3 := hCx.trans hC3
    have HF : Hid (w3.heap[I]? = some (.cells (itemC M (.pointer none) false) 68 (0, 0)) ∧ w3.heap[M]? = some (.map (es.eraseIdxIfInBounds 0) c) ∧ w3.heap[A]? = some (.map (ea.eraseIdxIfInBounds 0) ca) ∧ Chg (fun b => b = I ∨ b = M ∨ b = A) w w3) :=
      ⟨hI3, hC4.keep HH.out.2.1 hMI, hC4.keep HH.out.2.2.1 hAI, HH.out.2.2.2.1.trans (hC4.mono (fun _ _ h => .inl h))⟩
    clear hI3 hC3 hC4 hCx hIx
    go_wp2
    go_ret
    exact ⟨rfl, HF.out⟩

end Go.Proofs.Ybulkadpy
