/-
  LawS1480BMatchesTable: what lies in memory.
-/
import Derived.Test.YbulkadpyWay3
import Derived.Test.YbulkadpyPlainB
namespace Go.Proofs.Ybulkadpy
open Go.RowKit
open Go.ChangeMaps (setBlock)

def lkB (Z j : Nat) : Nat := Z + 5 + 2 * j
def awB (Z j : Nat) : Nat := Z + 4 + 2 * j
def tsB (Z u : Nat) : Int := ((u : Int) - Z - 5) / 2

theorem tsB_lk (Z j : Nat) : tsB Z (lkB Z j) = j := by
  unfold tsB lkB
  omega

/-- The holders' map. -/
def esB (Z : Nat) (md : Int) (hs : List Nat) : Array MapEntry := (hs.zipIdx.map fun p => (⟨lp (lkB Z p.1), .int .u8 md, p.2⟩ : MapEntry)).toArray

theorem esB_size (Z : Nat) (md : Int) (hs : List Nat) : (esB Z md hs).size = hs.length := by simp [esB]
theorem esB_push (Z : Nat) (md : Int) (hs : List Nat) (i : Nat) : (esB Z md hs).push ⟨.pointer (some ⟨lkB Z i, 0, none⟩), .int .u8 md, hs.length⟩ = esB Z md (hs ++ [i]) := by
  unfold esB
  rw [List.zipIdx_append]
  simp [lp]
theorem esB_mem {Z : Nat} {md : Int} {hs : List Nat} {x : MapEntry} (h : x ∈ (esB Z md hs).toList) : ∃ i k, hs[k]? = some i ∧ x = ⟨lp (lkB Z i), .int .u8 md, k⟩ := by
  unfold esB at h
  obtain ⟨⟨i, k⟩, hp, rfl⟩ := List.mem_map.1 (show x ∈ hs.zipIdx.map (fun p => (⟨lp (lkB Z p.1), .int .u8 md, p.2⟩ : MapEntry)) from h)
  exact ⟨i, k, by simpa using List.mem_zipIdx_iff_getElem?.1 hp, rfl⟩
theorem esB_born (Z : Nat) (md : Int) (hs : List Nat) : (esB Z md hs).toList.map (·.born) = List.range hs.length := by
  unfold esB
  rw [List.map_map]
  show List.map (fun p : Nat × Nat => p.2) hs.zipIdx = _
  rw [List.zipIdx_map_snd, List.range_eq_range']
theorem esB_ix (Z : Nat) (md : Int) (hs : List Nat) : (esB Z md hs).toList.map (ix (tsB Z)) = hs := by
  unfold esB
  rw [List.map_map]
  have : (ix (tsB Z) ∘ fun p : Nat × Nat => (⟨lp (lkB Z p.1), .int .u8 md, p.2⟩ : MapEntry)) = fun p => p.1 := by
    funext p
    exact ix_key (tsB_lk Z) rfl
  rw [this]
  exact List.zipIdx_map_fst 0 hs

structure G (w wr : World) (n : Nat) (num : Nat → Int) (md : Int) (hs : List Nat) (ex : Option Nat) (Q : List Req) (a : Bool) (wl : List Nat) (vw : Value) : Prop where
  below : Below w.heap.size w wr
  tR : Ty wr (w.heap.size + 3) 54 n
  ls : ∀ j, j < n → wr.cell? ⟨w.heap.size + 3, j, none⟩ = some (lp (lkB w.heap.size j))
  lks : ∀ j, j < n → Ty wr (lkB w.heap.size j) 48 7 ∧ wr.cell? ⟨lkB w.heap.size j, 0, none⟩ = some (.int .i64 (num j)) ∧ wr.cell? ⟨lkB w.heap.size j, 1, none⟩ = some (.int .i64 j) ∧ wr.cell? ⟨lkB w.heap.size j, 5, none⟩ = some (.map (some (awB w.heap.size j)))
  tI : Ty wr (w.heap.size + 1) 68 14
  c0 : wr.cell? ⟨w.heap.size + 1, 0, none⟩ = some (.map (some (w.heap.size + 2)))
  c1 : wr.cell? ⟨w.heap.size + 1, 1, none⟩ = some (optp (ex.map (lkB w.heap.size)))
  c13 : wr.cell? ⟨w.heap.size + 1, 13, none⟩ = some (.bool a)
  hm : wr.heap[w.heap.size + 2]? = some (.map (esB w.heap.size md hs) hs.length)
  fresh : a = false → ∀ j, j < n → wr.heap[awB w.heap.size j]? = some (.map #[] 0)
  both : QBoth wr (w.heap.size + 4) (w.heap.size + 1) (lkB w.heap.size) Q (Q.filter isX)
  rqs : ∀ x ∈ Q, RQ wr (w.heap.size + 1) (lkB w.heap.size) x ∧ wr.cell? ⟨lkB w.heap.size x.u, 6, none⟩ = some (lp x.b) ∧ x.u < n
  up : Q.Pairwise (fun a b => a.u < b.u)
  nd : (Q.map Req.b).Nodup
  row : wr.ownsRow (w.heap.size + 4) 3 1 vw wl.length (wl.map fun i => .int .i64 (num i))
  hsn : ∀ i ∈ hs, i < n
  hsd : hs.Nodup
  rge : ∀ x ∈ Q, w.heap.size ≤ x.b

section
variable {w wr W : World} {n : Nat} {num : Nat → Int} {md : Int} {hs hs' : List Nat} {ex ex' : Option Nat} {Q Q' : List Req} {a a' : Bool} {wl wl' : List Nat} {vw vw' : Value}

theorem G.step {S : Nat → Nat → Prop} (h : G w wr n num md hs ex Q a wl vw) (hc : CChg S wr W) (hb : ∀ b k, b < w.heap.size → ¬ S b k) (hR : ∀ k, ¬ S (w.heap.size + 3) k) (hI0 : ¬ S (w.heap.size + 1) 0) (hlk : ∀ j k, j < n → k ≠ 6 → ¬ S (lkB w.heap.size j) k)
    (c1 : W.cell? ⟨w.heap.size + 1, 1, none⟩ = some (optp (ex'.map (lkB w.heap.size)))) (c13 : W.cell? ⟨w.heap.size + 1, 13, none⟩ = some (.bool a')) (hm : W.heap[w.heap.size + 2]? = some (.map (esB w.heap.size md hs') hs'.length))
    (fresh : a' = false → ∀ j, j < n → W.heap[awB w.heap.size j]? = some (.map #[] 0)) (both : QBoth W (w.heap.size + 4) (w.heap.size + 1) (lkB w.heap.size) Q' (Q'.filter isX))
    (rqs : ∀ x ∈ Q', RQ W (w.heap.size + 1) (lkB w.heap.size) x ∧ W.cell? ⟨lkB w.heap.size x.u, 6, none⟩ = some (lp x.b) ∧ x.u < n) (up : Q'.Pairwise (fun a b => a.u < b.u)) (nd : (Q'.map Req.b).Nodup)
    (row : W.ownsRow (w.heap.size + 4) 3 1 vw' wl'.length (wl'.map fun i => .int .i64 (num i))) (hsn : ∀ i ∈ hs', i < n) (hsd : hs'.Nodup) (rge : ∀ x ∈ Q', w.heap.size ≤ x.b) : G w W n num md hs' ex' Q' a' wl' vw' :=
  ⟨h.below.trans (Below.of_cc hc h.below.size hb), h.tR.keep hc ⟨0, hR 0⟩, fun j hj => h.tR.cell hc (hR j) (h.ls j hj), fun j hj => by
    obtain ⟨h1, h2, h3, h4⟩ := h.lks j hj
    exact ⟨h1.keep hc ⟨0, hlk j 0 hj (by omega)⟩, h1.cell hc (hlk j 0 hj (by omega)) h2, h1.cell hc (hlk j 1 hj (by omega)) h3, h1.cell hc (hlk j 5 hj (by omega)) h4⟩,
    h.tI.keep hc ⟨0, hI0⟩, h.tI.cell hc hI0 h.c0, c1, c13, hm, fresh, both, rqs, up, nd, row, hsn, hsd, rge⟩

theorem RQ.chg0 {w w' : World} {I : Nat} {lk : Nat → Nat} {r : Req} (h : RQ w I lk r) (hc : Chg (fun _ => False) w w') : RQ w' I lk r := h.keep hc.cc (fun _ _ h => h)

theorem G.chg0 (h : G w wr n num md hs ex Q a wl vw) (hc : Chg (fun _ => False) wr W) : G w W n num md hs ex Q a wl vw :=
  h.step hc.cc (fun _ _ _ h => h) (fun _ h => h) (fun h => h) (fun _ _ _ _ h => h) (hc.cell h.c1) (hc.cell h.c13) (hc.keep h.hm (fun h => h)) (fun e j hj => hc.keep (h.fresh e j hj) (fun h => h)) (h.both.chg0 hc) (fun x hx => by
    obtain ⟨h1, h2, h3⟩ := h.rqs x hx
    exact ⟨h1.chg0 hc, hc.cell h2, h3⟩) h.up h.nd (ownsRow_chg h.row hc (fun _ _ h => h)) h.hsn h.hsd h.rge

/-- The row's blocks lie apart from all else. -/
theorem QS.keepS {S : Nat → Nat → Prop} {w W : World} {base I l : Nat} {lk : Nat → Nat} {L : List Req} {v : Value} {lim : Int} (h : QS w base I l lk L v lim) (hc : CChg S w W) (tI : Ty w I 68 14) (tL : ∀ x ∈ L, Ty w x.b 82 8) (hI : ∀ k, 4 ≤ k → k ≤ 11 → ¬ S I k) (hx : ∀ x ∈ L, ∀ k, ¬ S x.b k) (hr : ∀ (b k : Nat) cur, w.heap[b]? = some (.cells cur 54 (0, 0)) → base ≤ b → ¬ S b k) (hl : l ≤ 1) : QS W base I l lk L v lim :=
  ⟨tI.cell hc (hI _ (by omega) (by omega)) h.first, tI.cell hc (hI _ (by omega) (by omega)) h.last, tI.cell hc (hI _ (by omega) (by omega)) h.rowv, tI.cell hc (hI _ (by omega) (by omega)) h.limv, ownsRow_cc h.row hc (fun b hb k => by
    obtain ⟨h1, cur, h2⟩ := row_ty h.row hb
    exact hr b k cur h2 h1), h.lims, fun i x hi => by
    have hm : x ∈ L := List.mem_iff_getElem?.2 ⟨i, hi⟩
    exact (tL x hm).cell hc (hx x hm _) (h.next i x hi)⟩

theorem QBoth.keepS {S : Nat → Nat → Prop} {w W : World} {base I : Nat} {lk : Nat → Nat} {Q : List Req} (h : QBoth w base I lk Q (Q.filter isX)) (hc : CChg S w W) (tI : Ty w I 68 14) (tL : ∀ x ∈ Q, Ty w x.b 82 8) (hI : ∀ k, 4 ≤ k → k ≤ 11 → ¬ S I k) (hx : ∀ x ∈ Q, ∀ k, ¬ S x.b k) (hr : ∀ (b k : Nat) cur, w.heap[b]? = some (.cells cur 54 (0, 0)) → base ≤ b → ¬ S b k) : QBoth W base I lk Q (Q.filter isX) := by
  obtain ⟨v0, m0, v1, m1, h0, h1, hap⟩ := h
  exact ⟨v0, m0, v1, m1, h0.keepS hc tI tL hI hx hr (by omega), h1.keepS hc tI (fun x hm => tL x ((filter_sub Q).subset hm)) hI (fun x hm => hx x ((filter_sub Q).subset hm)) hr (by omega), hap⟩

/-- 'it.holders[ls[i]] = md'. -/
theorem G.hold (h : G w wr n num md hs ex Q a wl vw) (i : Nat) (hi : i < n) (hni : i ∉ hs) (hm : W.heap[w.heap.size + 2]? = some (.map ((esB w.heap.size md hs).push ⟨.pointer (some ⟨lkB w.heap.size i, 0, none⟩), .int .u8 md, hs.length⟩) (hs.length + 1))) (hc : Chg (fun b => b = w.heap.size + 2) wr W) :
    G w W n num md (hs ++ [i]) ex Q a wl vw := by
  have hmap : IsMap wr (w.heap.size + 2) := ⟨_, _, h.hm⟩
  have hne : ∀ {b ty m}, Ty wr b ty m → b ≠ w.heap.size + 2 := fun ht e => ht.notMap (by rw [e]; exact hmap)
  have hcell : ∀ {b ty m k v}, Ty wr b ty m → wr.cell? ⟨b, k, none⟩ = some v → W.cell? ⟨b, k, none⟩ = some v := fun ht hv => ht.cell hc.cc (hne ht) hv
  refine h.step hc.cc (fun b k hb e => by omega) (fun k e => by omega) (by omega) (fun j k hj _ => hne (h.lks j hj).1) (hcell h.tI h.c1) (hcell h.tI h.c13) (by rw [hm, esB_push]; simp) (fun e j hj => hc.keep (h.fresh e j hj) (by unfold awB; omega)) (h.both.keepS hc.cc h.tI (fun x hx => (h.rqs x hx).1.ty) (fun k _ _ => hne h.tI) (fun x hx k => hne (h.rqs x hx).1.ty) (fun b k cur hb _ e => ?_)) (fun x hx => ?_) h.up h.nd (ownsRow_chg h.row hc (fun b hb e => ?_)) (fun j hj => ?_) ?_ h.rge
  · rw [e, h.hm] at hb; cases hb
  · obtain ⟨h1, h2, h3⟩ := h.rqs x hx
    exact ⟨h1.keep hc.cc (fun _ _ => hne h1.ty), hcell (h.lks x.u h3).1 h2, h3⟩
  · obtain ⟨_, cur, hcur⟩ := row_ty h.row hb
    rw [e, h.hm] at hcur; cases hcur
  · rcases List.mem_append.1 hj with hj | hj
    · exact h.hsn j hj
    · simp at hj; omega
  · exact List.nodup_append.2 ⟨h.hsd, by simp, fun x hx y hy e => by simp at hy; rw [e, hy] at hx; exact hni hx⟩

/-- 'it.exclusive = ls[i]'. -/
theorem G.excl (h : G w wr n num md hs ex Q a wl vw) (i : Nat) : G w (wr.setCell ⟨w.heap.size + 1, 1, none⟩ (.pointer (some ⟨lkB w.heap.size i, 0, none⟩))) n num md hs (some i) Q a wl vw := by
  have hc : CChg (fun b k => b = w.heap.size + 1 ∧ k = 1) wr (wr.setCell ⟨w.heap.size + 1, 1, none⟩ (.pointer (some ⟨lkB w.heap.size i, 0, none⟩))) := (CChg.refl _ _).setCell _ _ ⟨rfl, rfl⟩ _
  have hnI : ∀ {b ty m}, Ty wr b ty m → ty ≠ 68 → b ≠ w.heap.size + 1 := fun ht hty => ht.ne h.tI hty
  refine h.step hc (fun b k hb e => by omega) (fun k e => by omega) (by omega) (fun j k hj _ e => hnI (h.lks j hj).1 (by decide) e.1) (cell_set_same _ h.c1) (h.tI.cell hc (by omega) h.c13) ?_ (fun e j hj => ?_) (h.both.keepS hc h.tI (fun x hx => (h.rqs x hx).1.ty) (fun k _ _ e => by omega) (fun x hx k e => hnI (h.rqs x hx).1.ty (by decide) e.1) (fun b k cur hb _ e => ?_)) (fun x hx => ?_) h.up h.nd (ownsRow_cc h.row hc (fun b hb k e => ?_)) h.hsn h.hsd h.rge
  · rw [hc.block _ (heap_lt h.hm) (fun k e => by omega)]; exact h.hm
  · rw [hc.block _ (heap_lt (h.fresh e j hj)) (fun k e => by unfold awB at e; omega)]; exact h.fresh e j hj
  · obtain ⟨cs, h1, _⟩ := h.tI
    rw [e.1, h1] at hb; cases hb
  · obtain ⟨h1, h2, h3⟩ := h.rqs x hx
    exact ⟨h1.keep hc (fun k _ e => hnI h1.ty (by decide) e.1), (h.lks x.u h3).1.cell hc (fun e => hnI (h.lks x.u h3).1 (by decide) e.1) h2, h3⟩
  · obtain ⟨_, cur, hcur⟩ := row_ty h.row hb
    obtain ⟨cs, h1, _⟩ := h.tI
    rw [e.1, h1] at hcur; cases hcur

/-- 'want = append(want, nums[i])'. -/
theorem G.want (h : G w wr n num md hs ex Q a wl vw) (i : Nat) (hown : W.ownsRow (w.heap.size + 4) 3 1 vw' (wl.length + 1) ((wl.map fun i => .int .i64 (num i)) ++ [.int .i64 (num i)])) (hc : Chg (fun b => vw.ownBlock = some b) wr W) : G w W n num md hs ex Q a (wl ++ [i]) vw' := by
  have hne : ∀ {b ty m}, Ty wr b ty m → ty ≠ 3 → vw.ownBlock ≠ some b := fun ht hty => ht.neRow h.row hty
  have hge : ∀ b, vw.ownBlock = some b → w.heap.size + 4 ≤ b := fun b hb => (row_ty h.row hb).1
  have hnm : ∀ {b es c}, wr.heap[b]? = some (.map es c) → vw.ownBlock ≠ some b := fun hb e => by
    obtain ⟨_, cur, hcur⟩ := row_ty h.row e
    rw [hb] at hcur; cases hcur
  refine h.step hc.cc (fun b k hb e => by have := hge b e; omega) (fun k e => by have := hge _ e; omega) (fun e => by have := hge _ e; omega) (fun j k hj _ => hne (h.lks j hj).1 (by decide)) (h.tI.cell hc.cc (hne h.tI (by decide)) h.c1) (h.tI.cell hc.cc (hne h.tI (by decide)) h.c13) (hc.keep h.hm (hnm h.hm)) (fun e j hj => hc.keep (h.fresh e j hj) (hnm (h.fresh e j hj))) (h.both.keepS hc.cc h.tI (fun x hx => (h.rqs x hx).1.ty) (fun k _ _ => hne h.tI (by decide)) (fun x hx k => hne (h.rqs x hx).1.ty (by decide)) (fun b k cur hb _ e => ?_)) (fun x hx => ?_) h.up h.nd ?_ h.hsn h.hsd h.rge
  · obtain ⟨_, cur', hcur⟩ := row_ty h.row e
    rw [hb] at hcur; cases hcur
  · obtain ⟨h1, h2, h3⟩ := h.rqs x hx
    exact ⟨h1.keep hc.cc (fun k _ => hne h1.ty (by decide)), (h.lks x.u h3).1.cell hc.cc (hne (h.lks x.u h3).1 (by decide)) h2, h3⟩
  · rw [List.length_append, List.map_append]
    exact hown

/-- The cells of a request that is new. -/
def reqO (Z i : Nat) (m seq : Int) : Obj := .cells #[.pointer (some ⟨lkB Z i, 0, none⟩), .pointer (some ⟨Z + 1, 0, none⟩), .int .u8 m, .int .i64 seq, .pointer none, .pointer none, .pointer none, .pointer none] 82

theorem G.hld (h : G w wr n num md hs ex Q a wl vw) : Hld wr (w.heap.size + 2) (esB w.heap.size md hs) (lkB w.heap.size) (awB w.heap.size) := by
  refine ⟨by rw [esB_size]; exact h.hm, fun x hx => ?_, by rw [esB_born]; exact List.nodup_range, fun x hx => ?_, fun x hx y hy e => ?_⟩
  · obtain ⟨i, k, hk, rfl⟩ := esB_mem hx
    rw [esB_size]
    exact (List.getElem?_eq_some_iff.1 hk).1
  · obtain ⟨i, k, hk, rfl⟩ := esB_mem hx
    have hi := h.hsn i (List.mem_iff_getElem?.2 ⟨k, hk⟩)
    obtain ⟨h1, _, _, h4⟩ := h.lks i hi
    exact ⟨i, rfl, h1, h4⟩
  · obtain ⟨i, k, hk, rfl⟩ := esB_mem hx
    obtain ⟨i', k', hk', rfl⟩ := esB_mem hy
    have e2 : lkB w.heap.size i = lkB w.heap.size i' := by simpa [lp] using e
    have e3 : i = i' := by unfold lkB at e2; omega
    subst e3
    obtain ⟨l1, l2⟩ := List.getElem?_eq_some_iff.1 hk
    obtain ⟨l3, l4⟩ := List.getElem?_eq_some_iff.1 hk'
    show k = k'
    have hp := List.pairwise_iff_getElem.1 h.hsd
    rcases Nat.lt_trichotomy k k' with hlt | heq | hgt
    · exact absurd (l2.trans l4.symm) (hp k k' l1 l3 hlt)
    · exact heq
    · exact absurd (l4.trans l2.symm) (hp k' k l3 l1 hgt)

theorem G.wait (h : G w wr n num md hs ex Q a wl vw) (i : Nat) (m : Int) (hi : i < n) (hm : m = 1 ∨ m = 2) (hlast : ∀ x ∈ Q, x.u < i) (hlen : Q.length ≤ 300) :
    Calls Yba.prog 7 #[.pointer (some ⟨wr.heap.size, 0, none⟩)] (wr.alloc (reqO w.heap.size i m ((i : Int) + 1))) fun e W' => e = .returned (.tuple #[]) ∧ G w W' n num md hs ex (Q ++ [⟨wr.heap.size, i, m⟩]) true wl vw := by
  have hc0 : Chg (fun _ => False) wr (wr.alloc (reqO w.heap.size i m ((i : Int) + 1))) := (Chg.refl _ _).alloc _
  have g := h.chg0 hc0
  have hq : (wr.alloc (reqO w.heap.size i m ((i : Int) + 1))).heap[wr.heap.size]? = some (reqO w.heap.size i m ((i : Int) + 1)) := heap_alloc_new _ _
  have hrq : RQ (wr.alloc (reqO w.heap.size i m ((i : Int) + 1))) (w.heap.size + 1) (lkB w.heap.size) ⟨wr.heap.size, i, m⟩ := ⟨⟨_, hq, rfl⟩, cell_of hq rfl, cell_of hq rfl, cell_of hq rfl, cell_of hq rfl, hm⟩
  have hZ : w.heap.size ≤ wr.heap.size := h.below.size
  have hnd : ((Q ++ [(⟨wr.heap.size, i, m⟩ : Req)]).map Req.b).Nodup := by
    rw [List.map_append]
    refine List.nodup_append.2 ⟨h.nd, by simp, fun x hx y hy e => ?_⟩
    obtain ⟨r, hr, rfl⟩ := List.mem_map.1 hx
    simp at hy
    have := (h.rqs r hr).1.ty.lt
    omega
  have hpre : WPre (wr.alloc (reqO w.heap.size i m ((i : Int) + 1))) (w.heap.size + 4) (w.heap.size + 1) (w.heap.size + 2) (lkB w.heap.size) (awB w.heap.size) Q ⟨wr.heap.size, i, m⟩ (esB w.heap.size md hs) a := by
    refine ⟨⟨g.tI, hrq, ⟨(g.lks i hi).1, (g.lks i hi).2.2.1⟩, fun x hx => ?_, g.up, hnd, hlen, ?_⟩, g.both, g.c13, g.c0, g.hld, fun e x hx j hk => ?_, fun x y e => by unfold lkB at e; omega, fun x y e => by unfold awB at e; omega, fun x e => by unfold awB at e; omega⟩
    · obtain ⟨h1, h2, h3⟩ := g.rqs x hx
      exact ⟨h1, ⟨(g.lks x.u h3).1, (g.lks x.u h3).2.2.1⟩, h2, hlast x hx⟩
    · have := g.tR.lt
      omega
    · obtain ⟨i', k', hk', rfl⟩ := esB_mem hx
      have e2 : lkB w.heap.size i' = lkB w.heap.size j := by simpa [lp] using hk
      have e3 : i' = j := by unfold lkB at e2; omega
      subst e3
      exact g.fresh e i' (g.hsn i' (List.mem_iff_getElem?.2 ⟨k', hk'⟩))
  refine (wait_any (tsB w.heap.size) (tsB_lk w.heap.size) a hpre).mono ?_
  rintro e W' ⟨he, hp⟩
  refine ⟨he, ?_⟩
  have tyr : ∀ x ∈ Q ++ [(⟨wr.heap.size, i, m⟩ : Req)], Ty (wr.alloc (reqO w.heap.size i m ((i : Int) + 1))) x.b 82 8 := fun x hx => by
    rcases List.mem_append.1 hx with hx | hx
    · exact (g.rqs x hx).1.ty
    · simp at hx; subst hx; exact hrq.ty
  have hS : ∀ {b ty k m'}, Ty (wr.alloc (reqO w.heap.size i m ((i : Int) + 1))) b ty m' → ty ≠ 82 → ¬ (ty = 54 ∧ w.heap.size + 4 ≤ b) → b ≠ w.heap.size + 1 → (b = lkB w.heap.size i → k ≠ 6) → ¬ SWait (wr.alloc (reqO w.heap.size i m ((i : Int) + 1))) (w.heap.size + 4) (w.heap.size + 1) (w.heap.size + 2) (lkB w.heap.size) (awB w.heap.size) Q ⟨wr.heap.size, i, m⟩ b k := by
    rintro b ty k m' ht h1 h2 h3 h4 ((⟨e, _⟩ | ⟨⟨x, hx, e⟩, _⟩ | ⟨hb, cur, e⟩) | (⟨e, _⟩ | ⟨e, _⟩) | ⟨e, e2⟩)
    · exact h3 e
    · exact ht.ne (tyr x hx) h1 e
    · obtain ⟨cs, h5, _⟩ := ht
      rw [e] at h5
      cases h5
      exact h2 ⟨rfl, hb⟩
    · exact h3 e
    · exact ht.notMap e
    · exact h4 e e2
  refine g.step hp.cc (fun b k hb => ?_) (fun k => hS g.tR (by decide) (fun e => by omega) (by omega) (fun e => by unfold lkB at e; omega)) ?_ (fun j k hj hk => hS (g.lks j hj).1 (by decide) (fun e => absurd e.1 (by decide)) (by unfold lkB; omega) (fun _ => hk)) ?_ hp.c13 ?_ (fun e => by cases e) hp.both (fun x hx => ?_) ?_ hnd ?_ g.hsn g.hsd ?_
  · rintro ((⟨e, _⟩ | ⟨⟨x, hx, e⟩, _⟩ | ⟨e, _⟩) | (⟨e, _⟩ | ⟨_, _, j, e⟩) | ⟨e, _⟩)
    · omega
    · rcases List.mem_append.1 hx with hx | hx
      · have := h.rge x hx; omega
      · simp at hx; subst hx; simp at e; omega
    · omega
    · omega
    · unfold awB at e; omega
    · unfold lkB at e; omega
  · rintro ((⟨_, e, _⟩ | ⟨⟨x, hx, e⟩, _⟩ | ⟨e, _⟩) | (⟨_, e⟩ | ⟨e, _⟩) | ⟨_, e⟩)
    · omega
    · exact (tyr x hx).ne g.tI (by decide) e.symm
    · omega
    · omega
    · exact g.tI.notMap e
    · omega
  · refine g.tI.cell hp.cc ?_ g.c1
    rintro ((⟨_, e, _⟩ | ⟨⟨x, hx, e⟩, _⟩ | ⟨e, _⟩) | (⟨_, e⟩ | ⟨e, _⟩) | ⟨_, e⟩)
    · omega
    · exact (tyr x hx).ne g.tI (by decide) e.symm
    · omega
    · omega
    · exact g.tI.notMap e
    · omega
  · rw [hp.cc.block _ (heap_lt g.hm) ?_]
    · exact g.hm
    · have hmap : IsMap (wr.alloc (reqO w.heap.size i m ((i : Int) + 1))) (w.heap.size + 2) := ⟨_, _, g.hm⟩
      rintro k ((⟨e, _⟩ | ⟨⟨x, hx, e⟩, _⟩ | ⟨e, _⟩) | (⟨e, _⟩ | ⟨_, e, _⟩) | ⟨e, _⟩)
      · omega
      · exact (tyr x hx).notMap (by rw [← e]; exact hmap)
      · omega
      · omega
      · exact e rfl
      · unfold lkB at e; omega
  · obtain ⟨h1, _, h3⟩ := hp.all x hx
    refine ⟨h1, h3, ?_⟩
    rcases List.mem_append.1 hx with hx | hx
    · exact (g.rqs x hx).2.2
    · simp at hx; subst hx; exact hi
  · exact List.pairwise_append.2 ⟨h.up, by simp, fun x hx y hy => by simp at hy; subst hy; exact hlast x hx⟩
  · refine ownsRow_cc g.row hp.cc (fun b hb k => ?_)
    obtain ⟨hge, cur, hcur⟩ := row_ty g.row hb
    have ht : Ty (wr.alloc (reqO w.heap.size i m ((i : Int) + 1))) b 3 cur.size := ⟨cur, hcur, rfl⟩
    exact hS ht (by decide) (fun e => absurd e.1 (by decide)) (by omega) (fun e => absurd e (ht.ne (g.lks i hi).1 (by decide)))
  · intro x hx
    rcases List.mem_append.1 hx with hx | hx
    · exact h.rge x hx
    · simp at hx; subst hx; exact hZ
end

end Go.Proofs.Ybulkadpy
