/-
  LawS1480AAbort: what holds while the law lays its items.
-/
import Derived.Test.YbulkadpyAbort
namespace Go.Proofs.Ybulkadpy
open Go.RowKit
open Go.ChangeMaps (setBlock)

theorem Yba.info57 : (Yba.prog.info? 57).map (fun i => (i.zero, i.size, i.bytes)) = some (some (.pointer none), 1, 8) := by kernel_rfl

theorem five (w : World) (o0 o1 o2 o3 o4 : Obj) : (((((w.alloc o0).alloc o1).alloc o2).alloc o3).alloc o4).heap[w.heap.size]? = some o0 ∧ (((((w.alloc o0).alloc o1).alloc o2).alloc o3).alloc o4).heap[w.heap.size + 1]? = some o1 ∧
    (((((w.alloc o0).alloc o1).alloc o2).alloc o3).alloc o4).heap[w.heap.size + 2]? = some o2 ∧ (((((w.alloc o0).alloc o1).alloc o2).alloc o3).alloc o4).heap[w.heap.size + 3]? = some o3 ∧ (((((w.alloc o0).alloc o1).alloc o2).alloc o3).alloc o4).heap[w.heap.size + 4]? = some o4 := by
  simp only [World.alloc, Array.getElem?_push, Array.size_push]
  refine ⟨?_, ?_, ?_, ?_, ?_⟩
  · simp only [Nat.left_eq_add, Nat.add_assoc]; simp
  all_goals simp

/-- One element of the input. -/
structure D where
  mode : Int
  other : Bool
  excl : Bool
  aw : Bool

/-- 'its', when the first of its cells are filled. -/
def itsC (L : List Ent) (len : Nat) : Array Value := (L.map Ent.ptr ++ List.replicate (len - L.length) (Value.pointer none)).toArray

/-- What holds while the items are laid: 'vt' stands in 't.held', 'vh' owns the items' pointers; 'ea', 'ca': 't.awaited'; 'ic': the cells of 'its'. -/
structure Stg (w : World) (num : Int) (ds : List D) (wr : World) (L : List Ent) (vt vh : Value) (ea : List MapEntry) (ca : Nat) (ic : Array Value) : Prop where
  below : Below w.heap.size w wr
  hR : wr.heap[w.heap.size]? = some (.cells #[.slice none 0 0, .int .i64 0] 26 (0, 0))
  hr : wr.heap[w.heap.size + 1]? = some (.cells (rC w.heap.size) 36 (0, 0))
  core : Core w.heap.size wr num 0 vt ea ca
  items : Items w.heap.size wr L 0
  held : Held w.heap.size wr vh L
  its : wr.heap[w.heap.size + 5]? = some (.cells ic 57 (0, 0))
  dat : ∀ (i : Nat) (e : Ent), L[i]? = some e → ds[i]? = some ⟨e.mode, e.other, e.excl, e.aw⟩

def Inv1 (w : World) (num : Int) (len : Nat) (ds : List D) (wr : World) (L : List Ent) (v : Value) : Prop := Stg w num ds wr L v v (awE 0 L) L.length (itsC L len)

theorem Stg.setT {w : World} {num : Int} {ds : List D} {wr : World} {L : List Ent} {vt vh : Value} {ea : List MapEntry} {ca : Nat} {ic : Array Value} (h : Stg w num ds wr L vt vh ea ca ic) (x : Value) :
    Stg w num ds (wr.setCell ⟨w.heap.size + 2, 4, none⟩ x) L x vh ea ca ic := by
  have hc : Chg (fun b => b = w.heap.size + 2) wr (wr.setCell ⟨w.heap.size + 2, 4, none⟩ x) := (Chg.refl (fun b => b = w.heap.size + 2) _).setCell ⟨w.heap.size + 2, 4, none⟩ rfl _
  exact ⟨h.below.setCell (by show w.heap.size ≤ w.heap.size + 2; omega) x, hc.keep h.hR (by omega), hc.keep h.hr (by omega), ⟨heap_setCell_same h.core.hT _, hc.keep h.core.hA (by omega), hc.keep h.core.hO (by omega)⟩, h.items.chg hc (by omega), h.held.chg hc (by omega), hc.keep h.its (by omega), h.dat⟩

theorem Stg.setA {w : World} {num : Int} {ds : List D} {wr w3 : World} {L : List Ent} {vt vh : Value} {ea : List MapEntry} {ca : Nat} {ic : Array Value} (h : Stg w num ds wr L vt vh ea ca ic) {ea' : List MapEntry} {ca' : Nat}
    (h3 : w3.heap[w.heap.size + 3]? = some (.map ea'.toArray ca')) (hc : Chg (fun b => b = w.heap.size + 3) wr w3) : Stg w num ds w3 L vt vh ea' ca' ic :=
  ⟨h.below.trans (hc.below (B := w.heap.size) h.below.size (by omega)), hc.keep h.hR (by omega), hc.keep h.hr (by omega), ⟨hc.keep h.core.hT (by omega), h3, hc.keep h.core.hO (by omega)⟩, h.items.chg hc (by omega), h.held.chg hc (by omega), hc.keep h.its (by omega), h.dat⟩

theorem Stg.setIts {w : World} {num : Int} {ds : List D} {wr : World} {L : List Ent} {vt vh : Value} {ea : List MapEntry} {ca : Nat} {ic : Array Value} (h : Stg w num ds wr L vt vh ea ca ic) (k : Nat) (x : Value) :
    Stg w num ds (wr.setCell ⟨w.heap.size + 5, k, none⟩ x) L vt vh ea ca (ic.setIfInBounds k x) := by
  have hc : Chg (fun b => b = w.heap.size + 5) wr (wr.setCell ⟨w.heap.size + 5, k, none⟩ x) := (Chg.refl (fun b => b = w.heap.size + 5) _).setCell ⟨w.heap.size + 5, k, none⟩ rfl _
  exact ⟨h.below.setCell (by show w.heap.size ≤ w.heap.size + 5; omega) x, hc.keep h.hR (by omega), hc.keep h.hr (by omega), ⟨hc.keep h.core.hT (by omega), hc.keep h.core.hA (by omega), hc.keep h.core.hO (by omega)⟩, h.items.chg hc (by omega), h.held.chg hc (by omega), heap_setCell_same h.its _, h.dat⟩

theorem its_step (L : List Ent) (len : Nat) (e : Ent) (h : L.length < len) : (itsC L len).setIfInBounds L.length e.ptr = itsC (L ++ [e]) len := by
  apply Array.toList_inj.1
  unfold itsC
  rw [Array.toList_setIfInBounds]
  simp only
  obtain ⟨m, hm⟩ : ∃ m, len - L.length = m + 1 := ⟨len - L.length - 1, by omega⟩
  have h2 : len - (L ++ [e]).length = m := by simp; omega
  rw [hm, h2, List.replicate_succ]
  have h3 : (L.map Ent.ptr).length = L.length := by simp
  rw [List.set_append_right _ _ (by omega)]
  simp

theorem pfind_fresh (p : Addr) : ∀ (L : List Ent) (k i : Nat), (∀ e ∈ L, e.I ≠ p.block) → pfind p (awE k L) i = none
  | [], _, _, _ => rfl
  | e :: L, k, i, h => by
    have h1 := h e (List.mem_cons_self ..)
    have h2 := pfind_fresh p L (k + 1) (i + 1) (fun x hx => h x (List.mem_cons_of_mem _ hx))
    have h3 : ¬ p = ⟨e.I, 0, none⟩ := fun e2 => h1 (by rw [e2])
    simp only [awE, pfind, Ent.ptr]
    rw [if_neg h3]
    exact h2

/-- The append: the new item lies there; 't.held' is about to be written. -/
theorem Stg.append {w : World} {num : Int} {ds : List D} {wr WC w1 : World} {L : List Ent} {v v' : Value} {len : Nat} (h : Inv1 w num len ds wr L v) (e : Ent) (hI : e.I = wr.heap.size + 2) (hM : e.M = wr.heap.size + 1)
    (hwc : Chg (fun _ => False) wr WC) (b1 : WC.heap[e.M]? = some (.map (e.es w.heap.size) e.clk)) (b2 : WC.heap[e.I]? = some (.cells (itemC e.M (e.ex w.heap.size) e.aw) 68 (0, 0))) (hg : WC.grownBy w1 v.ownBlock)
    (hown : w1.ownsRow (w.heap.size + 6) 57 1 v' (L.length + 1) (L.map Ent.ptr ++ [e.ptr])) (hd : ds[L.length]? = some ⟨e.mode, e.other, e.excl, e.aw⟩) :
    Stg w num ds w1 (L ++ [e]) v v' (awE 0 L) L.length (itsC L len) := by
  have hob := World.ownsRow.lt h.held
  have hlt5 : w.heap.size + 5 < wr.heap.size := heap_lt h.its
  have hc0 : Chg (fun b => v.ownBlock = some b) WC w1 := (Chg.refl _ _).grown hg (fun k hk _ => hk)
  have hc : Chg (fun b => v.ownBlock = some b) wr w1 := (hwc.mono (fun _ _ h => h.elim)).trans hc0
  have hlow : ∀ b, b < w.heap.size + 6 → ¬ v.ownBlock = some b := fun b hb hv => by have := (hob b hv).1; omega
  have hx : ∀ b c n, wr.heap[b]? = some (.map c n) → ¬ v.ownBlock = some b := fun b c n hb hv => by
    rcases h.held.2 with ⟨h1, _⟩ | ⟨g, cap, cur, h1, _, h3, _⟩
    · rw [h1] at hv; cases hv
    · rw [h1] at hv; cases hv; rw [hb] at h3; cases h3
  have hy : ∀ b c, wr.heap[b]? = some (.cells c 68 (0, 0)) → ¬ v.ownBlock = some b := fun b c hb hv => by
    rcases h.held.2 with ⟨h1, _⟩ | ⟨g, cap, cur, h1, _, h3, _⟩
    · rw [h1] at hv; cases hv
    · rw [h1] at hv; cases hv; rw [hb] at h3; cases h3
  have hz : ∀ b, wr.heap.size ≤ b → ¬ v.ownBlock = some b := fun b hb hv => by have := (hob b hv).2; omega
  have hat : ∀ (i : Nat) (f : Ent), (L ++ [e])[i]? = some f → (i < L.length ∧ L[i]? = some f) ∨ (i = L.length ∧ f = e) := fun i f hf => by
    rcases Nat.lt_or_ge i L.length with hi | hi
    · rw [List.getElem?_append_left hi] at hf; exact .inl ⟨hi, hf⟩
    · rw [List.getElem?_append_right hi] at hf
      have : i - L.length = 0 := by
        rcases Nat.eq_zero_or_pos (i - L.length) with h0 | h0
        · exact h0
        · rw [List.getElem?_eq_none (by simp; omega)] at hf; cases hf
      rw [this] at hf
      simp at hf
      exact .inr ⟨by omega, hf.symm⟩
  have hold : ∀ (i : Nat) (f : Ent), L[i]? = some f → f.I < wr.heap.size ∧ f.M < wr.heap.size := fun i f hf => ⟨heap_lt (h.items.at_ i f hf).1, heap_lt (h.items.at_ i f hf).2⟩
  refine { below := h.below.trans (hc.below (B := w.heap.size) h.below.size (fun k hk => hlow k (by omega))), hR := hc.keep h.hR (hlow _ (by omega)), hr := hc.keep h.hr (hlow _ (by omega)), core := ⟨hc.keep h.core.hT (hlow _ (by omega)), hc.keep h.core.hA (hlow _ (by omega)), hc.keep h.core.hO (hlow _ (by omega))⟩, items := ?_, held := by unfold Held; simpa using hown, its := hc.keep h.its (hlow _ (by omega)), dat := ?_ }
  · refine ⟨fun i f hf => ?_, fun i k f g hf hg2 heq => ?_, fun i k f g hf hg2 heq => ?_, fun f hf => ?_⟩
    · rw [if_neg (Nat.not_lt_zero i), if_neg (Nat.not_lt_zero i)]
      rcases hat i f hf with ⟨hi, hf⟩ | ⟨_, rfl⟩
      · have h1 := h.items.at_ i f hf
        rw [if_neg (Nat.not_lt_zero i), if_neg (Nat.not_lt_zero i)] at h1
        exact ⟨hc.keep h1.1 (hy _ _ h1.1), hc.keep h1.2 (hx _ _ _ h1.2)⟩
      · exact ⟨hc0.keep b2 (hz _ (by omega)), hc0.keep b1 (hz _ (by omega))⟩
    · rcases hat i f hf with ⟨hi, hf1⟩ | ⟨hi, hf1⟩
      · rcases hat k g hg2 with ⟨hk, hg3⟩ | ⟨hk, hg3⟩
        · exact h.items.nI i k f g hf1 hg3 heq
        · have := (hold i f hf1).1; rw [hg3] at heq; omega
      · rcases hat k g hg2 with ⟨hk, hg3⟩ | ⟨hk, hg3⟩
        · have := (hold k g hg3).1; rw [hf1] at heq; omega
        · omega
    · rcases hat i f hf with ⟨hi, hf1⟩ | ⟨hi, hf1⟩
      · rcases hat k g hg2 with ⟨hk, hg3⟩ | ⟨hk, hg3⟩
        · exact h.items.nM i k f g hf1 hg3 heq
        · have := (hold i f hf1).2; rw [hg3] at heq; omega
      · rcases hat k g hg2 with ⟨hk, hg3⟩ | ⟨hk, hg3⟩
        · have := (hold k g hg3).2; rw [hf1] at heq; omega
        · omega
    · rcases List.mem_append.1 hf with hf | hf
      · exact h.items.ge f hf
      · simp at hf; subst hf; omega
  · intro i f hf
    rcases hat i f hf with ⟨hi, hf⟩ | ⟨hi, rfl⟩
    · exact h.dat i f hf
    · rw [hi]; exact hd

theorem madeCells_nil (n : Nat) : (madeCells #[Value.pointer none] n).toList = List.replicate n (.pointer none) := by
  simp only [madeCells]
  apply List.ext_getElem
  · simp
  · intro i h1 h2
    simp [Nat.mod_one]

theorem inv_start (w : World) (num : Int) (len : Nat) (ds : List D) (w0 : World)
    (hgrow0 : World.grownBy (((((w.alloc (.cells #[.slice none 0 0, .int .i64 0] 26)).alloc (.cells (rC w.heap.size) 36)).alloc (.cells (tC num 0 (.slice none 0 0) (w.heap.size + 3)) 53)).alloc (.map #[] 0)).alloc (.cells oC 48)) w0 none)
    (hown0 : w0.ownsRow (w.heap.size + 5) 57 1 (.slice (some ⟨w.heap.size + 5, 0, none⟩) len len) len (madeCells #[Value.pointer none] len).toList) : Inv1 w num len ds w0 [] (.slice none 0 0) := by
  have hch := (Chg.refl (fun _ => False) _).grown hgrow0 (fun k h => by cases h)
  have h5 := five w (.cells #[.slice none 0 0, .int .i64 0] 26) (.cells (rC w.heap.size) 36) (.cells (tC num 0 (.slice none 0 0) (w.heap.size + 3)) 53) (.map #[] 0) (.cells oC 48)
  have hb : Below w.heap.size w w0 := by
    refine Below.trans ?_ (hch.below (B := w.heap.size) (by simp; omega) (fun _ _ h => h))
    exact (((((Below.refl _ w).alloc (Nat.le_refl _) _).alloc (by simp) _).alloc (by simp; omega) _).alloc (by simp; omega) _).alloc (by simp; omega) _
  show Stg w num ds w0 [] _ _ _ _ _
  refine { below := hb, hR := hch.keep h5.1 (fun h => h), hr := hch.keep h5.2.1 (fun h => h), core := ⟨hch.keep h5.2.2.1 (fun h => h), hch.keep h5.2.2.2.1 (fun h => h), hch.keep h5.2.2.2.2 (fun h => h)⟩, items := ⟨fun i e h => (by simp at h), fun i k e f h => (by simp at h), fun i k e f h => (by simp at h), fun e h => (by simp at h)⟩, held := World.ownsRow_nil _ _ _ _, its := ?_, dat := fun i e h => (by simp at h) }
  obtain ⟨hl, ⟨h1, h2⟩ | ⟨g, cap2, cur, h1, _, h3, _, _, h6, h7⟩⟩ := hown0
  · cases h1
  · cases h1
    rw [madeCells_nil, List.take_of_length_le (by simp; omega)] at h7
    have hcur : cur = itsC [] len := by
      apply Array.toList_inj.1
      rw [h7]
      simp [itsC]
    rw [← hcur]
    exact h3

theorem setBlock_mid (w : World) (a b b' c : Obj) : setBlock (((w.alloc a).alloc b).alloc c).drew (w.heap.size + 1) b' = (((w.alloc a).alloc b').alloc c).drew := by
  have h : ((((w.heap.push a).push b).push c).setIfInBounds (w.heap.size + 1) b') = (((w.heap.push a).push b').push c) := by
    apply Array.ext_getElem?
    intro i
    rw [Array.getElem?_setIfInBounds]
    simp only [Array.getElem?_push, Array.size_push]
    by_cases h1 : w.heap.size + 1 = i
    · subst h1; simp
    · rw [if_neg h1]
      by_cases h2 : i = w.heap.size + 1 + 1
      · simp [h2]
      · have h3 : ¬ i = w.heap.size + 1 := fun e => h1 e.symm
        simp [h2, h3]
  show ({ (((w.alloc a).alloc b).alloc c).drew with heap := _ } : World) = _
  rw [show (((w.alloc a).alloc b).alloc c).drew.heap = ((w.heap.push a).push b).push c from rfl, h]
  rfl

theorem Pl.mono {S : Nat → Prop} {w w' : World} {b : Nat} (h : Pl w b) (hc : Chg S w w') (hs : ¬ S b) : Pl w' b := by
  obtain ⟨c, t, h⟩ := h
  exact ⟨c, t, hc.keep h hs⟩

/-- 'm[p] = v' where m is the second of the three blocks that the round has just laid. -/
theorem update_mid (wr : World) (dd it : Obj) (es : Array MapEntry) (c : Nat) (p : Addr) (v : Value) (hp : Pl wr p.block) (he : ∀ e ∈ es.toList, ∃ b, e.key = .pointer (some b) ∧ Pl wr b.block) (hn : pfind p es.toList 0 = none) :
    (Instr.mapUpdate 58 (.map (some (wr.heap.size + 1))) (.pointer (some p)) v).run Yba.prog (((wr.alloc dd).alloc (.map es c)).alloc it).drew = .ok () (((wr.alloc dd).alloc (.map (es.push { key := .pointer (some p), val := v, born := c }) (c + 1))).alloc it).drew := by
  obtain ⟨j48, hj48, hz48⟩ := info_of Yba.info48 (by decide)
  have hc : Chg (fun _ => False) wr (((wr.alloc dd).alloc (.map es c)).alloc it).drew := ((((Chg.refl _ _).alloc _).alloc _).alloc _).drew
  have hr : (((wr.alloc dd).alloc (.map es c)).alloc it).drew.heap[wr.heap.size + 1]? = some (.map es c) := by
    show (((wr.heap.push dd).push (.map es c)).push it)[wr.heap.size + 1]? = _
    simp only [Array.getElem?_push, Array.size_push]
    simp
  rw [run_update_ptr Yba.underlying58 Yba.underlying54 hj48 hz48 (hp.mono hc (fun h => h)) hr (fun e h => by obtain ⟨b, h1, h2⟩ := he e h; exact ⟨b, h1, h2.mono hc (fun h => h)⟩) hn v, setBlock_mid]

theorem size4 (w : World) (a b c d : Obj) : ((((w.alloc a).alloc b).alloc c).alloc d).drew.heap.size = w.heap.size + 4 := by
  show ((((w.heap.push a).push b).push c).push d).size = _
  simp

theorem lit4 (w : World) (a b c : Obj) (x : Value) (t : TypeId) : ∀ (j : Nat) (u : Value), [x][j]? = some u → ((((w.alloc a).alloc b).alloc c).alloc (.cells #[x] t)).drew.cell? ((⟨w.heap.size + 1 + 1 + 1, 0, none⟩ : Addr).add j) = some u := by
  intro j u hj
  have hlt : j < 1 := by simpa using (List.getElem?_eq_some_iff.1 hj).1
  have e : (((w.alloc a).alloc b).alloc c).heap.size = w.heap.size + 1 + 1 + 1 := by show (((w.heap.push a).push b).push c).size = _; simp
  rw [Go.WideShapes.add_plain]
  have h := heap_alloc_new (((w.alloc a).alloc b).alloc c) (.cells #[x] t)
  rw [e] at h
  show ((((w.alloc a).alloc b).alloc c).alloc (.cells #[x] t)).cell? _ = _
  refine cell_of h ?_
  rw [← hj]
  simp

theorem ptr_one (p : Option Addr) : ∀ u ∈ [Value.pointer p], u.oneCell' = true := by
  intro u hu; simp at hu; subst hu; rfl

theorem three (w : World) (a b c d : Obj) : ((((w.alloc a).alloc b).alloc c).alloc d).drew.heap[w.heap.size + 1]? = some b ∧ ((((w.alloc a).alloc b).alloc c).alloc d).drew.heap[w.heap.size + 2]? = some c := by
  show ((((w.heap.push a).push b).push c).push d)[w.heap.size + 1]? = some b ∧ ((((w.heap.push a).push b).push c).push d)[w.heap.size + 2]? = some c
  simp only [Array.getElem?_push, Array.size_push]
  refine ⟨?_, ?_⟩ <;> simp

/-- What the store into 't.held' wants. -/
theorem Stg.cells {w : World} {num : Int} {ds : List D} {wr : World} {L : List Ent} {vt vh : Value} {ea : List MapEntry} {ca : Nat} {ic : Array Value} (h : Stg w num ds wr L vt vh ea ca ic) :
    wr.cell? ⟨w.heap.size + 1 + 1, 4, none⟩ = some vt ∧ wr.frozen? ⟨w.heap.size + 1 + 1, 4, none⟩ = false ∧ wr.cell? ⟨w.heap.size + 1 + 1, 5, none⟩ = some (.map (some (w.heap.size + 3))) :=
  ⟨cell_of h.core.hT rfl, frozen_of h.core.hT, cell_of h.core.hT rfl⟩

/-- What the store into 't.awaited' wants. -/
theorem Stg.fresh {w : World} {num : Int} {ds : List D} {w2 : World} {L : List Ent} {e : Ent} {vt vh : Value} {len : Nat} {ic : Array Value} (h : Stg w num ds w2 (L ++ [e]) vt vh (awE 0 L) len ic) (hne : ∀ f ∈ L, f.I ≠ e.I) :
    Pl w2 e.I ∧ w2.heap[w.heap.size + 3]? = some (.map (awE 0 L).toArray len) ∧ (∀ x ∈ (awE 0 L).toArray.toList, ∃ b, x.key = .pointer (some b) ∧ Pl w2 b.block) ∧ pfind ⟨e.I, 0, none⟩ (awE 0 L).toArray.toList 0 = none :=
  ⟨h.items.pl (by simp), h.core.hA, fun x hx => by
    obtain ⟨y, hy, hk⟩ := awE_mem L 0 x (by simpa using hx)
    exact ⟨⟨y.I, 0, none⟩, hk, h.items.pl (List.mem_append_left _ hy)⟩, by
    simpa using pfind_fresh ⟨e.I, 0, none⟩ L 0 0 hne⟩

theorem aw_push (L : List Ent) (e : Ent) : (awE 0 L).toArray.push ⟨e.ptr, .agg #[], L.length⟩ = (awE 0 (L ++ [e])).toArray := by
  rw [awE_snoc]
  simp

/-- What the store into 'its' wants. -/
theorem Stg.itsCell {w : World} {num : Int} {ds : List D} {wr : World} {L L' : List Ent} {vt vh : Value} {ea : List MapEntry} {ca len : Nat} (h : Stg w num ds wr L' vt vh ea ca (itsC L len)) (hk : L.length < len) :
    wr.cell? ⟨w.heap.size + 1 + 1 + 1 + 1 + 1, L.length, none⟩ = some (.pointer none) ∧ wr.frozen? ⟨w.heap.size + 1 + 1 + 1 + 1 + 1, L.length, none⟩ = false := by
  refine ⟨cell_of (b := w.heap.size + 1 + 1 + 1 + 1 + 1) h.its ?_, frozen_of h.its⟩
  unfold itsC
  rw [List.getElem?_toArray, List.getElem?_append_right (by simp)]
  simp [List.getElem?_replicate]
  omega

theorem inv_close {w : World} {num : Int} {len : Nat} {ds : List D} {wr : World} {L : List Ent} {e : Ent} {v : Value} (h : Stg w num ds wr (L ++ [e]) v v (awE 0 (L ++ [e])) (L.length + 1) (itsC (L ++ [e]) len)) : Inv1 w num len ds wr (L ++ [e]) v := by
  unfold Inv1
  rw [show (L ++ [e]).length = L.length + 1 by simp]
  exact h

end Go.Proofs.Ybulkadpy
