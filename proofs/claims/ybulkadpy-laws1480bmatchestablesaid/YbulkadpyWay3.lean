/-
  inWay: the iterator.
-/
import Derived.Test.YbulkadpyWay2
namespace Go.Proofs.Ybulkadpy
open Go.RowKit Go.Shelf

/-- How many requests are still to come, read off the pointer. -/
def toCome (L : List Req) : Value → Nat
  | .pointer (some a) => L.length - (L.map Req.b).idxOf a.block
  | _ => 0

theorem toCome_at {L : List Req} (nd : (L.map Req.b).Nodup) {i : Nat} {x : Req} (h : L[i]? = some x) : toCome L (.pointer (some ⟨x.b, 0, none⟩)) = L.length - i := by
  obtain ⟨hi, hx⟩ := List.getElem?_eq_some_iff.1 h
  show L.length - (L.map Req.b).idxOf x.b = _
  congr 1
  have hi' : i < (L.map Req.b).length := by simpa using hi
  have : (L.map Req.b)[i] = x.b := by simp [hx]
  rw [← this]
  exact nd.idxOf_getElem i hi'

theorem toCome_le {L : List Req} (nd : (L.map Req.b).Nodup) {i : Nat} (hi : i < L.length) : toCome L (optp (L[i + 1]?.map Req.b)) < L.length - i := by
  cases h : L[i + 1]? with
  | none => show (0 : Nat) < _; omega
  | some y =>
    have hlt := (List.getElem?_eq_some_iff.1 h).1
    show toCome L (.pointer (some ⟨y.b, 0, none⟩)) < _
    rw [toCome_at nd h]
    omega

/-- What inWay finds of the list that it walks. -/
structure WayL (w0 : World) (I l : Nat) (lk : Nat → Nat) (N : Nat) (L : List Req) : Prop where
  first : w0.cell? ⟨I, 4 + 2 * l, none⟩ = some (optp (L.head?.map Req.b))
  next : ∀ i x, L[i]? = some x → w0.cell? ⟨x.b, 5 + 2 * l, none⟩ = some (optp (L[i + 1]?.map Req.b))
  rq : ∀ x ∈ L, RQ w0 I lk x ∧ x.u < N
  nd : (L.map Req.b).Nodup
  small : L.length ≤ 400

/-- What stands in inWay's loop. -/
def WayI (w0 : World) (num : Nat → Int) (L : List Req) (hs : List Nat) (K : Nat) (r : Loop) (vp : Value) (wr : World) : Prop :=
  ∃ i, i ≤ L.length ∧ vp = optp (L[i]?.map Req.b) ∧ BI w0 num (hs ++ (L.take i).map Req.u) wr ∧ wr.heap[K]? = some (.loop r)

set_option maxRecDepth 100000 in
set_option maxHeartbeats 1000000 in
theorem way0 (w0 : World) (I HM : Nat) (lk aw : Nat → Nat) (es : Array MapEntry) (q who N : Nat) (ex : Option Nat) (num : Nat → Int) (L : List Req) (K : Nat) (r : Loop) (HS : List Nat → Prop) (hHS : ∀ hs, HS hs → hs.length ≤ 400) (h : AskQ w0 I HM lk aw es q who N 2 ex) (hw : WayL w0 I 0 lk N L) (hY : RoundOk w0 lk num N K r) (W : World)
    (hH : CallsIn Fence.wide (3 - 1 - 1) Yba.prog 28 #[.pointer (some ⟨q, 0, none⟩), .func (.yield K) #[] #[]] W fun e W' => e = .returned (.bool true) ∧ ∃ hs, HS hs ∧ BI w0 num hs W' ∧ W'.heap[K]? = some (.loop r)) :
    CallsIn Fence.wide (3 - 1) Yba.prog 17 #[.pointer (some ⟨q, 0, none⟩), .func (.yield K) #[] #[]] W fun e W' => (∃ v, e = .returned v) ∧ ∃ xs, (∃ hs, HS hs ∧ xs = hs ++ L.map Req.u) ∧ BI w0 num xs W' ∧ W'.heap[K]? = some (.loop r) := by
  have H := hide (show AskQ w0 I HM lk aw es q who N 2 ex ∧ WayL w0 I 0 lk N L ∧ RoundOk w0 lk num N K r ∧ (∀ hs, HS hs → hs.length ≤ 400) from ⟨h, hw, hY, hHS⟩)
  have HH := hide hH
  clear h hw hY hHS hH
  refine callsIn_of_wp Yba.func17 rfl trivial ?_ rfl
  simp only [Yba.ntmps17, List.size_toArray, List.length_cons, List.length_nil, Nat.reduceAdd, Nat.reduceSub, Array.replicate_succ, Array.replicate_zero, List.push_toArray, List.append_toArray, List.nil_append, List.cons_append]
  gi_wp2_with (first
    | (refine ⟨trivial, ?_⟩; gi_at_call 28; refine HH.out.mono ?_; rintro e W2 ⟨rfl, hs, hhs, hbi, hlp⟩; have q1 : W2.cell? ⟨q, 1, none⟩ = some (.pointer (some ⟨I, 0, none⟩)) := (hbi.below.cell (p := ⟨q, 1, none⟩) (Lib.lt_of_cell H.out.1.q1)).trans H.out.1.q1; have q2 : W2.cell? ⟨q, 2, none⟩ = some (.int .u8 2) := (hbi.below.cell (p := ⟨q, 2, none⟩) (Lib.lt_of_cell H.out.1.q2)).trans H.out.1.q2; have f0 : W2.cell? ⟨I, 4, none⟩ = some (optp (L.head?.map Req.b)) := (hbi.below.cell (p := ⟨I, 4, none⟩) (Lib.lt_of_cell H.out.2.1.first)).trans H.out.2.1.first; have HB := hide (show HS hs ∧ BI w0 num hs W2 ∧ W2.heap[K]? = some (.loop r) from ⟨hhs, hbi, hlp⟩); clear hhs hbi hlp)
    | (refine ⟨trivial, ?_⟩; gi_at_call 29; refine (callsIn_wide.2 (conf_excl _)).mono ?_; rintro e W3 ⟨rfl, rfl⟩))
  gi_loopw [5] (fun vp wr => WayI w0 num L hs K r vp wr) (fun vp _ => toCome L vp)
  case atStart => exact ⟨0, Nat.zero_le _, by cases L <;> rfl, by simpa using HB.out.2.1, HB.out.2.2⟩
  case round =>
    clear q1 q2 f0
    obtain ⟨i, hi, rfl, hbi, hlp⟩ := hrel
    have k : ∀ {p : Addr} {v : Value}, w0.cell? p = some v → wr.cell? p = some v := fun {p} {v} hv => (hbi.below.cell (p := p) (Lib.lt_of_cell hv)).trans hv
    cases hx : L[i]? with
    | none =>
      have hil : i = L.length := by
        have := List.getElem?_eq_none_iff.1 hx
        omega
      have HF := hide (show BI w0 num (hs ++ L.map Req.u) wr ∧ wr.heap[K]? = some (.loop r) from ⟨by rw [hil, List.take_length] at hbi; exact hbi, hlp⟩)
      have ho : optp (Option.map Req.b none) = .pointer none := rfl
      rw [ho]
      clear hbi hlp k hil hx
      gi_wp2
      refine wpIn_wide.2 ?_
      go_quiet (fail)
      gi_wp2
      go_end0
      exact ⟨⟨_, rfl⟩, hs ++ L.map Req.u, ⟨hs, HB.out.1, rfl⟩, HF.out.1.keep ((Chg.refl (fun _ => False) _).drewN _) (fun _ _ h => h) (fun _ _ _ h => h), HF.out.2⟩
    | some x =>
      have hm : x ∈ L := List.mem_iff_getElem?.2 ⟨i, hx⟩
      have hil := (List.getElem?_eq_some_iff.1 hx).1
      obtain ⟨hrq, hxN⟩ := H.out.2.1.rq x hm
      have c0 : wr.cell? ⟨x.b, 0, none⟩ = some (.pointer (some ⟨lk x.u, 0, none⟩)) := k hrq.c0
      have c3 : wr.cell? ⟨x.b, 3, none⟩ = some (.int .i64 ((x.u : Int) + 1)) := k hrq.c3
      have q3 : wr.cell? ⟨q, 3, none⟩ = some (.int .i64 ((N : Int) + 1)) := k H.out.1.q3
      have hlt : (x.u : Int) + 1 < (N : Int) + 1 := by omega
      have hd : decide ((x.u : Int) + 1 < (N : Int) + 1) = true := decide_eq_true hlt
      have ho : optp (Option.map Req.b (some x)) = .pointer (some ⟨x.b, 0, none⟩) := rfl
      rw [ho]
      have HN : Hid (∀ W4 : World, (BI w0 num (hs ++ (L.take i).map Req.u ++ [x.u]) W4 ∧ W4.heap[K]? = some (.loop r)) → W4.cell? ⟨x.b, 5, none⟩ = some (optp (L[i + 1]?.map Req.b)) ∧ WayI w0 num L hs K r (optp (L[i + 1]?.map Req.b)) W4 ∧ toCome L (optp (L[i + 1]?.map Req.b)) < toCome L (.pointer (some ⟨x.b, 0, none⟩))) := fun W4 h4 => by
        refine ⟨(h4.1.below.cell (p := ⟨x.b, 5, none⟩) (Lib.lt_of_cell (H.out.2.1.next i x hx))).trans (H.out.2.1.next i x hx), ⟨i + 1, hil, rfl, ?_, h4.2⟩, ?_⟩
        · rw [List.take_add_one, hx, List.map_append, ← List.append_assoc]
          exact h4.1
        · rw [toCome_at H.out.2.1.nd hx]
          exact toCome_le H.out.2.1.nd hil
      have HY := hide (show ∀ m, ∀ m', YieldAt Fence.wide m' Yba.prog K #[.pointer (some ⟨lk x.u, 0, none⟩)] (wr.drewN m) fun e W' => e = .returned (.bool true) ∧ (BI w0 num (hs ++ (L.take i).map Req.u ++ [x.u]) W' ∧ W'.heap[K]? = some (.loop r)) ∧ KeepT (wr.drewN m) W' from fun m m' => H.out.2.2.1 _ x.u (wr.drewN m) ⟨hxN, by
        have h1 := H.out.2.2.2 hs HB.out.1
        have h2 := H.out.2.1.small
        rw [List.length_append, List.length_map, List.length_take]
        omega⟩ ⟨hbi.keep ((Chg.refl (fun _ => False) _).drewN _) (fun _ _ h => h) (fun _ _ _ h => h), hlp⟩ m')
      clear hbi hlp k hx hrq hm
      gi_wp2
      refine wpIn_wide.2 ?_
      go_quiet (fail)
      obtain ⟨fn, tmps, assign, body, hy, hR⟩ := HY.out nq (3 - 1 - 1)
      have HR := hide hR
      clear hR
      gi_wp2
      refine HR.out.mono ?_
      rintro e2 W4 ⟨rfl, hJ4, _⟩
      obtain ⟨n1, n2, n3⟩ := HN.out W4 hJ4
      clear hJ4
      gi_wp2
      go_roundw
      case rel => exact n2
      case measure => exact n3

set_option maxRecDepth 100000 in
set_option maxHeartbeats 1000000 in
theorem way1 (w0 : World) (I HM : Nat) (lk aw : Nat → Nat) (es : Array MapEntry) (q who N : Nat) (ex : Option Nat) (num : Nat → Int) (L : List Req) (K : Nat) (r : Loop) (HS : List Nat → Prop) (hHS : ∀ hs, HS hs → hs.length ≤ 400) (h : AskQ w0 I HM lk aw es q who N 1 ex) (hw : WayL w0 I 1 lk N L) (hY : RoundOk w0 lk num N K r) (W : World)
    (hH : CallsIn Fence.wide (3 - 1 - 1) Yba.prog 28 #[.pointer (some ⟨q, 0, none⟩), .func (.yield K) #[] #[]] W fun e W' => e = .returned (.bool true) ∧ ∃ hs, HS hs ∧ BI w0 num hs W' ∧ W'.heap[K]? = some (.loop r)) :
    CallsIn Fence.wide (3 - 1) Yba.prog 17 #[.pointer (some ⟨q, 0, none⟩), .func (.yield K) #[] #[]] W fun e W' => (∃ v, e = .returned v) ∧ ∃ xs, (∃ hs, HS hs ∧ xs = hs ++ L.map Req.u) ∧ BI w0 num xs W' ∧ W'.heap[K]? = some (.loop r) := by
  have H := hide (show AskQ w0 I HM lk aw es q who N 1 ex ∧ WayL w0 I 1 lk N L ∧ RoundOk w0 lk num N K r ∧ (∀ hs, HS hs → hs.length ≤ 400) from ⟨h, hw, hY, hHS⟩)
  have HH := hide hH
  clear h hw hY hHS hH
  refine callsIn_of_wp Yba.func17 rfl trivial ?_ rfl
  simp only [Yba.ntmps17, List.size_toArray, List.length_cons, List.length_nil, Nat.reduceAdd, Nat.reduceSub, Array.replicate_succ, Array.replicate_zero, List.push_toArray, List.append_toArray, List.nil_append, List.cons_append]
  gi_wp2_with (first
    | (refine ⟨trivial, ?_⟩; gi_at_call 28; refine HH.out.mono ?_; rintro e W2 ⟨rfl, hs, hhs, hbi, hlp⟩; have q1 : W2.cell? ⟨q, 1, none⟩ = some (.pointer (some ⟨I, 0, none⟩)) := (hbi.below.cell (p := ⟨q, 1, none⟩) (Lib.lt_of_cell H.out.1.q1)).trans H.out.1.q1; have q2 : W2.cell? ⟨q, 2, none⟩ = some (.int .u8 1) := (hbi.below.cell (p := ⟨q, 2, none⟩) (Lib.lt_of_cell H.out.1.q2)).trans H.out.1.q2; have f0 : W2.cell? ⟨I, 6, none⟩ = some (optp (L.head?.map Req.b)) := (hbi.below.cell (p := ⟨I, 6, none⟩) (Lib.lt_of_cell H.out.2.1.first)).trans H.out.2.1.first; have HB := hide (show HS hs ∧ BI w0 num hs W2 ∧ W2.heap[K]? = some (.loop r) from ⟨hhs, hbi, hlp⟩); clear hhs hbi hlp)
    | (refine ⟨trivial, ?_⟩; gi_at_call 29; refine (callsIn_wide.2 (conf_shared _)).mono ?_; rintro e W3 ⟨rfl, rfl⟩))
  gi_loopw [5] (fun vp wr => WayI w0 num L hs K r vp wr) (fun vp _ => toCome L vp)
  case atStart => exact ⟨0, Nat.zero_le _, by cases L <;> rfl, by simpa using HB.out.2.1, HB.out.2.2⟩
  case round =>
    clear q1 q2 f0
    obtain ⟨i, hi, rfl, hbi, hlp⟩ := hrel
    have k : ∀ {p : Addr} {v : Value}, w0.cell? p = some v → wr.cell? p = some v := fun {p} {v} hv => (hbi.below.cell (p := p) (Lib.lt_of_cell hv)).trans hv
    cases hx : L[i]? with
    | none =>
      have hil : i = L.length := by
        have := List.getElem?_eq_none_iff.1 hx
        omega
      have HF := hide (show BI w0 num (hs ++ L.map Req.u) wr ∧ wr.heap[K]? = some (.loop r) from ⟨by rw [hil, List.take_length] at hbi; exact hbi, hlp⟩)
      have ho : optp (Option.map Req.b none) = .pointer none := rfl
      rw [ho]
      clear hbi hlp k hil hx
      gi_wp2
      refine wpIn_wide.2 ?_
      go_quiet (fail)
      gi_wp2
      go_end0
      exact ⟨⟨_, rfl⟩, hs ++ L.map Req.u, ⟨hs, HB.out.1, rfl⟩, HF.out.1.keep ((Chg.refl (fun _ => False) _).drewN _) (fun _ _ h => h) (fun _ _ _ h => h), HF.out.2⟩
    | some x =>
      have hm : x ∈ L := List.mem_iff_getElem?.2 ⟨i, hx⟩
      have hil := (List.getElem?_eq_some_iff.1 hx).1
      obtain ⟨hrq, hxN⟩ := H.out.2.1.rq x hm
      have c0 : wr.cell? ⟨x.b, 0, none⟩ = some (.pointer (some ⟨lk x.u, 0, none⟩)) := k hrq.c0
      have c3 : wr.cell? ⟨x.b, 3, none⟩ = some (.int .i64 ((x.u : Int) + 1)) := k hrq.c3
      have q3 : wr.cell? ⟨q, 3, none⟩ = some (.int .i64 ((N : Int) + 1)) := k H.out.1.q3
      have hlt : (x.u : Int) + 1 < (N : Int) + 1 := by omega
      have hd : decide ((x.u : Int) + 1 < (N : Int) + 1) = true := decide_eq_true hlt
      have ho : optp (Option.map Req.b (some x)) = .pointer (some ⟨x.b, 0, none⟩) := rfl
      rw [ho]
      have HN : Hid (∀ W4 : World, (BI w0 num (hs ++ (L.take i).map Req.u ++ [x.u]) W4 ∧ W4.heap[K]? = some (.loop r)) → W4.cell? ⟨x.b, 7, none⟩ = some (optp (L[i + 1]?.map Req.b)) ∧ WayI w0 num L hs K r (optp (L[i + 1]?.map Req.b)) W4 ∧ toCome L (optp (L[i + 1]?.map Req.b)) < toCome L (.pointer (some ⟨x.b, 0, none⟩))) := fun W4 h4 => by
        refine ⟨(h4.1.below.cell (p := ⟨x.b, 7, none⟩) (Lib.lt_of_cell (H.out.2.1.next i x hx))).trans (H.out.2.1.next i x hx), ⟨i + 1, hil, rfl, ?_, h4.2⟩, ?_⟩
        · rw [List.take_add_one, hx, List.map_append, ← List.append_assoc]
          exact h4.1
        · rw [toCome_at H.out.2.1.nd hx]
          exact toCome_le H.out.2.1.nd hil
      have HY := hide (show ∀ m, ∀ m', YieldAt Fence.wide m' Yba.prog K #[.pointer (some ⟨lk x.u, 0, none⟩)] (wr.drewN m) fun e W' => e = .returned (.bool true) ∧ (BI w0 num (hs ++ (L.take i).map Req.u ++ [x.u]) W' ∧ W'.heap[K]? = some (.loop r)) ∧ KeepT (wr.drewN m) W' from fun m m' => H.out.2.2.1 _ x.u (wr.drewN m) ⟨hxN, by
        have h1 := H.out.2.2.2 hs HB.out.1
        have h2 := H.out.2.1.small
        rw [List.length_append, List.length_map, List.length_take]
        omega⟩ ⟨hbi.keep ((Chg.refl (fun _ => False) _).drewN _) (fun _ _ h => h) (fun _ _ _ h => h), hlp⟩ m')
      clear hbi hlp k hx hrq hm
      gi_wp2
      refine wpIn_wide.2 ?_
      go_quiet (fail)
      obtain ⟨fn, tmps, assign, body, hy, hR⟩ := HY.out nq (3 - 1 - 1)
      have HR := hide hR
      clear hR
      gi_wp2
      refine HR.out.mono ?_
      rintro e2 W4 ⟨rfl, hJ4, _⟩
      obtain ⟨n1, n2, n3⟩ := HN.out W4 hJ4
      clear hJ4
      gi_wp2
      go_roundw
      case rel => exact n2
      case measure => exact n3

end Go.Proofs.Ybulkadpy
