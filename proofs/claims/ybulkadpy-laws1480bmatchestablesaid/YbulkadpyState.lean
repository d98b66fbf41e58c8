/-
  LawS1480AAbort: what lies in memory: the transaction, the other locker, the items.
-/
import Derived.Test.YbulkadpyRelease
namespace Go.Proofs.Ybulkadpy
open Go.RowKit
open Go.ChangeMaps (setBlock)

/-- One item that the law lays: its block, its holders' map's block, and the input's four cells. -/
structure Ent where
  I : Nat
  M : Nat
  mode : Int
  other : Bool
  excl : Bool
  aw : Bool

def tp (N : Nat) : Value := .pointer (some ⟨N + 2, 0, none⟩)
def op (N : Nat) : Value := .pointer (some ⟨N + 4, 0, none⟩)
def Ent.ptr (e : Ent) : Value := .pointer (some ⟨e.I, 0, none⟩)
def Ent.ex (N : Nat) (e : Ent) : Value := if e.excl then tp N else .pointer none
def Ent.es (N : Nat) (e : Ent) : Array MapEntry := if e.other then #[⟨tp N, .int .u8 e.mode, 0⟩, ⟨op N, .int .u8 1, 1⟩] else #[⟨tp N, .int .u8 e.mode, 0⟩]
def Ent.er (N : Nat) (e : Ent) : Array MapEntry := if e.other then #[⟨op N, .int .u8 1, 1⟩] else #[]
def Ent.clk (e : Ent) : Nat := if e.other then 2 else 1

theorem Ent.es_erase (N : Nat) (e : Ent) : (e.es N).eraseIdxIfInBounds 0 = e.er N := by
  unfold Ent.es Ent.er
  cases e.other <;> simp

/-- The entries of 't.awaited', the item numbered i stamped i. -/
def awE : Nat → List Ent → List MapEntry
  | _, [] => []
  | k, e :: L => ⟨e.ptr, .agg #[], k⟩ :: awE (k + 1) L

theorem awE_length : ∀ (L : List Ent) (k : Nat), (awE k L).length = L.length
  | [], _ => rfl
  | _ :: L, k => by simp [awE, awE_length L (k + 1)]
theorem awE_snoc : ∀ (L : List Ent) (k : Nat) (e : Ent), awE k (L ++ [e]) = awE k L ++ [⟨e.ptr, .agg #[], k + L.length⟩]
  | [], k, e => by simp [awE]
  | x :: L, k, e => by simp [awE, awE_snoc L (k + 1) e]; omega
theorem awE_mem : ∀ (L : List Ent) (k : Nat) (x : MapEntry), x ∈ awE k L → ∃ e ∈ L, x.key = e.ptr
  | e :: L, k, x, h => by
    rcases List.mem_cons.1 h with rfl | h
    · exact ⟨e, List.mem_cons_self .., rfl⟩
    · obtain ⟨y, hy, hk⟩ := awE_mem L (k + 1) x h
      exact ⟨y, List.mem_cons_of_mem _ hy, hk⟩
theorem awE_drop : ∀ (L : List Ent) (k j : Nat) (e : Ent), L[j]? = some e → (awE k L).drop j = ⟨e.ptr, .agg #[], k + j⟩ :: (awE k L).drop (j + 1)
  | x :: L, k, 0, e, h => by simp at h; subst h; simp [awE]
  | x :: L, k, j + 1, e, h => by
    have := awE_drop L (k + 1) j e (by simpa using h)
    simp only [awE, List.drop_succ_cons]
    rw [this]
    congr 2
    omega

/-- The transaction's cells. -/
def tC (num oc : Int) (v : Value) (A : Nat) : Array Value :=
  #[.int .i64 num, .int .i64 0, .int .u8 oc, .slice none 0 0, v, .map (some A), .pointer none, .bool false, .bool false, .int .u8 0, .int .i64 0, .string ⟨#[]⟩]
/-- The other locker's. -/
def oC : Array Value := #[.int .i64 0, .int .i64 0, .int .u8 0, .slice none 0 0, .slice none 0 0, .map none, .pointer none]

/-- The items lie there; the first j have been released. -/
structure Items (N : Nat) (w : World) (L : List Ent) (j : Nat) : Prop where
  at_ : ∀ (i : Nat) (e : Ent), L[i]? = some e → w.heap[e.I]? = some (.cells (if i < j then itemC e.M (.pointer none) false else itemC e.M (e.ex N) e.aw) 68 (0, 0)) ∧ w.heap[e.M]? = some (.map (if i < j then e.er N else e.es N) e.clk)
  nI : ∀ (i k : Nat) (e f : Ent), L[i]? = some e → L[k]? = some f → e.I = f.I → i = k
  nM : ∀ (i k : Nat) (e f : Ent), L[i]? = some e → L[k]? = some f → e.M = f.M → i = k
  ge : ∀ e ∈ L, N + 6 ≤ e.I ∧ N + 6 ≤ e.M

theorem Items.pl {N : Nat} {w : World} {L : List Ent} {j : Nat} (h : Items N w L j) {e : Ent} (he : e ∈ L) : Pl w e.I := by
  obtain ⟨i, hi⟩ := List.mem_iff_getElem?.1 he
  exact ⟨_, _, (h.at_ i e hi).1⟩

theorem Items.neIM {N : Nat} {w : World} {L : List Ent} {j : Nat} (h : Items N w L j) {e f : Ent} (he : e ∈ L) (hf : f ∈ L) : e.I ≠ f.M := fun e2 => by
  obtain ⟨i, hi⟩ := List.mem_iff_getElem?.1 he
  obtain ⟨k, hk⟩ := List.mem_iff_getElem?.1 hf
  have h1 := (h.at_ i e hi).1
  rw [e2, (h.at_ k f hk).2] at h1
  cases h1

/-- What lies there beside the items. -/
structure Core (N : Nat) (w : World) (num oc : Int) (v : Value) (ea : List MapEntry) (ca : Nat) : Prop where
  hT : w.heap[N + 2]? = some (.cells (tC num oc v (N + 3)) 53 (0, 0))
  hA : w.heap[N + 3]? = some (.map ea.toArray ca)
  hO : w.heap[N + 4]? = some (.cells oC 48 (0, 0))

theorem idle_er {N : Nat} {w : World} {num oc : Int} {v : Value} {ea : List MapEntry} {ca : Nat} (h : Core N w num oc v ea ca) (e : Ent) : Idle w (e.er N) e.clk := by
  unfold Ent.er Ent.clk
  cases e.other with
  | false => exact ⟨by simp, by simp, by simp⟩
  | true => exact ⟨fun x hx => by simp at hx; subst hx; exact ⟨N + 4, rfl, cell_of h.hO rfl⟩, by simp, by simp⟩

/-- release's premises at the item numbered j. -/
theorem relPre {N : Nat} {w : World} {num oc : Int} {v : Value} {L : List Ent} {j : Nat} (hC : Core N w num oc v ((awE 0 L).drop j) L.length) (hI : Items N w L j) (e : Ent) (he : L[j]? = some e) :
    RelPre w e.I e.M (N + 2) (N + 3) (e.ex N) e.aw (e.es N) e.clk (tC num oc v (N + 3)) 53 ((awE 0 L).drop j).toArray L.length := by
  have hm : e ∈ L := List.mem_iff_getElem?.2 ⟨j, he⟩
  have h1 := hI.at_ j e he
  rw [if_neg (Nat.lt_irrefl j), if_neg (Nat.lt_irrefl j)] at h1
  refine { hI := h1.1, hM := h1.2, hT := hC.hT, hA := hC.hA, tA := rfl, hex := ?_, ke := ?_, ka := ?_, fe := ?_, fa := ?_, ne := ?_, idle := ?_ }
  · unfold Ent.ex
    cases e.excl
    · exact .inl rfl
    · exact .inr rfl
  · intro x hx
    unfold Ent.es at hx
    cases ho : e.other with
    | false => rw [ho] at hx; simp at hx; subst hx; exact ⟨⟨N + 2, 0, none⟩, rfl, _, _, hC.hT⟩
    | true =>
      rw [ho] at hx
      simp at hx
      rcases hx with rfl | rfl
      · exact ⟨⟨N + 2, 0, none⟩, rfl, _, _, hC.hT⟩
      · exact ⟨⟨N + 4, 0, none⟩, rfl, _, _, hC.hO⟩
  · intro x hx
    obtain ⟨y, hy, hk⟩ := awE_mem L 0 x (List.mem_of_mem_drop (by simpa using hx))
    exact ⟨⟨y.I, 0, none⟩, hk, hI.pl hy⟩
  · unfold Ent.es
    cases e.other <;> exact ⟨_, by simp [pfind, tp]; rfl⟩
  · rw [awE_drop L 0 j e he]
    exact ⟨.agg #[], by simp [pfind, Ent.ptr]⟩
  · have := (hI.ge e hm).2
    omega
  · rw [Ent.es_erase]
    exact idle_er hC e

/-- The blocks that releasing the items may turn. -/
def Turn (N : Nat) (L : List Ent) (b : Nat) : Prop := b = N + 2 ∨ b = N + 3 ∨ ∃ e ∈ L, b = e.I ∨ b = e.M

/-- .. and what is left behind it. -/
theorem rel_step {N : Nat} {w w' : World} {num oc : Int} {v : Value} {L : List Ent} {j : Nat} (hC : Core N w num oc v ((awE 0 L).drop j) L.length) (hI : Items N w L j) (e : Ent) (he : L[j]? = some e)
    (h1 : w'.heap[e.I]? = some (.cells (itemC e.M (.pointer none) false) 68 (0, 0))) (h2 : w'.heap[e.M]? = some (.map ((e.es N).eraseIdxIfInBounds 0) e.clk)) (h3 : w'.heap[N + 3]? = some (.map (((awE 0 L).drop j).toArray.eraseIdxIfInBounds 0) L.length))
    (hc : Chg (fun b => b = e.I ∨ b = e.M ∨ b = N + 3) w w') :
    Core N w' num oc v ((awE 0 L).drop (j + 1)) L.length ∧ Items N w' L (j + 1) := by
  have hm : e ∈ L := List.mem_iff_getElem?.2 ⟨j, he⟩
  have hge := hI.ge e hm
  refine ⟨⟨hc.keep hC.hT (by omega), ?_, hc.keep hC.hO (by omega)⟩, ⟨?_, hI.nI, hI.nM, hI.ge⟩⟩
  · rw [h3, awE_drop L 0 j e he]
    simp
  · intro i f hf
    have hmf : f ∈ L := List.mem_iff_getElem?.2 ⟨i, hf⟩
    by_cases hij : i = j
    · subst hij
      rw [he] at hf
      cases hf
      rw [if_pos (Nat.lt_succ_self i), if_pos (Nat.lt_succ_self i)]
      exact ⟨h1, by rw [h2, Ent.es_erase]⟩
    · have hfe : f.I ≠ e.I := fun e2 => hij (hI.nI i j f e hf he e2)
      have hfm : f.M ≠ e.M := fun e2 => hij (hI.nM i j f e hf he e2)
      have hgf := hI.ge f hmf
      have hx := hI.at_ i f hf
      have n1 := hI.neIM hmf hm
      have n2 := hI.neIM hm hmf
      have e1 : i < j + 1 ↔ i < j := by omega
      simp only [e1]
      refine ⟨hc.keep hx.1 ?_, hc.keep hx.2 ?_⟩
      · rintro (h | h | h)
        · exact hfe h
        · exact n1 h
        · omega
      · rintro (h | h | h)
        · exact n2 h.symm
        · exact hfm h
        · omega

end Go.Proofs.Ybulkadpy
