/-
  LawS1480BMatchesTable: the walk.
-/
import Derived.Test.YbulkadpyCame
namespace Go.Proofs.Ybulkadpy
open Go.RowKit
open Go.ChangeMaps (setBlock)

set_option maxRecDepth 100000 in
set_option maxHeartbeats 20000000 in
theorem law_bT (an ah aw : Option Addr) (n cn nh ch nw cw : Nat) (excl : Bool) (qw : Int) (num : Nat → Int) (hold : Nat → Bool) (wt : Nat → Int) (w : World) (hn0 : 1 ≤ n) (hn : n ≤ 300) (hq0 : 0 ≤ qw) (hq1 : qw ≤ 18446744073709551615)
    (inN : Came w an n cn (fun i => .int .i64 (num i))) (inH : Came w ah nh ch (fun i => .bool (hold i))) (inW : Came w aw nw cw (fun i => .int .u8 (wt i))) (hwt : ∀ i, 0 ≤ wt i ∧ wt i ≤ 255) :
    Calls Yba.prog 4 #[.slice an n cn, .slice ah nh ch, .slice aw nw cw, .bool excl, .int .u64 qw, .bool true] w fun e w' => e = .returned (.bool true) ∧ Below w.heap.size w w' := by
  obtain ⟨who, hwn, hwq⟩ : ∃ who : Nat, who < n ∧ wrap64 (qw % (n : Int)) = (who : Int) := ⟨(qw % (n : Int)).toNat, by
    have h1 := Int.emod_nonneg qw (show (n : Int) ≠ 0 by omega)
    have h2 := Int.emod_lt_of_pos qw (show (0 : Int) < n by omega)
    omega, by
    have h1 := Int.emod_nonneg qw (show (n : Int) ≠ 0 by omega)
    have h2 := Int.emod_lt_of_pos qw (show (0 : Int) < n by omega)
    rw [IntWalk.wrap64_in _ (by omega)]
    omega⟩
  have hmm := @run_makeMap Yba.prog
  have h1 : decide ((n : Int) = 0) = false := decide_eq_false (by omega)
  have h2 : decide ((300 : Int) < (n : Int)) = false := decide_eq_false (by omega)
  have HIN := hide (show Came w an n cn (fun i => .int .i64 (num i)) ∧ Came w ah nh ch (fun i => .bool (hold i)) ∧ Came w aw nw cw (fun i => .int .u8 (wt i)) ∧ ∀ i, 0 ≤ wt i ∧ wt i ≤ 255 from ⟨inN, inH, inW, hwt⟩)
  clear inN inH inW hwt
  go_enter Yba.func4, Yba.ntmps4
  go_wp2_with (first
    | (go_at_call 6; refine (newItem_any w).mono ?_; rintro e w1 ⟨rfl, rfl⟩)
    | (at_make; refine wpList_make_raw rfl _ _ 59 rfl _ _ _ rfl rfl (run_ls n hn _) ?_))
  generalize hW0 : (((w.alloc (.map #[] 0)).alloc (.cells #[.map (some (w.heap.size + 1 + 1)), .pointer none, .slice none 0 0, .int .i64 0, .pointer none, .pointer none, .pointer none, .pointer none, .slice none 0 0, .int .i64 0, .slice none 0 0, .int .i64 0, .int .i64 0, .bool false] 68)).alloc (.map #[] 0)).alloc (.cells (mkC n) 54) = W0
  have HL0 := hide (show L1 w W0 n num 0 from by rw [← hW0]; exact L1.zero)
  clear hW0
  go_loopw [17] (fun vi wr => ∃ k : Nat, k ≤ n ∧ vi = .int .i64 k ∧ L1 w wr n num k) (fun vi _ => n - (intOf vi).toNat)
  case atStart => exact ⟨0, Nat.zero_le _, rfl, HL0.out⟩
  case round =>
    clear HL0
    obtain ⟨k, hk, rfl, hL⟩ := hrel
    by_cases hlt : k < n
    · obtain ⟨b, off, rfl, hcap, hb, hcell⟩ := HIN.out.1 k hlt
      have i1 : (k : Int) < (n : Int) := by omega
      have c0 : wr.cell? ⟨b, off + k, none⟩ = some (.int .i64 (num k)) := (hL.below.cell (p := ⟨b, off + k, none⟩) hb).trans hcell
      obtain ⟨z, hz0⟩ := hL.tR.some k hlt
      have hz : wr.cell? ⟨w.heap.size + 1 + 1 + 1, k, none⟩ = some z := hz0
      have hf : wr.frozen? ⟨w.heap.size + 1 + 1 + 1, k, none⟩ = false := hL.tR.frozen k
      have hRlt : w.heap.size + 1 + 1 + 1 < wr.heap.size := hL.tR.lt
      have hRlt1 : w.heap.size + 1 + 1 + 1 < wr.heap.size + 1 := by omega
      have hL' := hL.step hlt
      rw [World.setCell_alloc_past _ _ _ _ (by rw [World.size_alloc]; exact hRlt1), World.setCell_alloc_past _ _ _ _ hRlt] at hL'
      have HL := hide hL'
      clear hL hcell hz0 hL'
      go_wp2
      go_roundw
      case rel => exact ⟨k + 1, by omega, by go_num, HL.out⟩
      case measure => simp [intOf]; omega
    · have hkn : k = n := by omega
      subst hkn
      have hd : decide ((k : Int) < (k : Int)) = false := decide_eq_false (by omega)
      have HL := hide hL
      clear hL
      obtain ⟨i3, hi3⟩ := info_parts Yba.info3
      have HI3 := hide (show Yba.prog.info? 3 = some i3 ∧ i3.zero = some (.int .i64 0) ∧ i3.size = 1 ∧ i3.bytes = 8 from hi3)
      clear hi3
      · go_upto_if 71 with fail
        go_cut [19] from 20 to 155 (fun s19 wx => I4 w k num true who s19 wx)
        case first =>
          cases excl
          · have HG0 := hide (HL.out.done 1)
            clear HL
            go_wp2
            go_loopw [19, 22] (fun vv vi wr => I3 w k num true who vi vv wr) (fun _ vi _ => k - (intOf vi).toNat)
            case atStart => exact ⟨0, [], Nat.zero_le _, rfl, by simp, by simp, [], none, 0, 0, rfl, by simp, rfl, HG0.out⟩
            case round =>
              clear HG0
              have HREL := hide hrel
              obtain ⟨i, hs, hi, rfl, hlt, hlen, wl, ao, len, cap, hwl, hwll, rfl, hG⟩ := hrel
              have HWL := hide hwl
              have HLT := hide hlt
              by_cases c1 : i < k
              · have i1 : (i : Int) < (k : Int) := by omega
                by_cases c2 : i < nh
                · have i2 : (i : Int) < (nh : Int) := by omega
                  obtain ⟨b, off, rfl, hcap, hb, hcell⟩ := HIN.out.2.1 i c2
                  have ch0 : wr.cell? ⟨b, off + i, none⟩ = some (.bool (hold i)) := (hG.below.cell (p := ⟨b, off + i, none⟩) hb).trans hcell
                  have hni : i ∉ hs := fun hx => Nat.lt_irrefl i (hlt i hx)
                  cases hh : hold i with
                  | false =>
                    rw [hh] at ch0
                    have HN := hide (show I3 w k num true who (.int .i64 ((i : Int) + 1)) (.slice ao len cap) wr from ⟨i + 1, hs, by omega, by simp, fun x hx => Nat.lt_succ_of_lt (hlt x hx), by omega, wl, ao, len, cap, hwl, by omega, rfl, hG⟩)
                    clear hG hcell hwl hlt hni
                    go_wp2
                    go_roundw
                    case rel => exact HN.out
                    case measure => simp [intOf]; omega
                  | true =>
                    rw [hh] at ch0
                    have cI : wr.cell? ⟨w.heap.size + 1, 0, none⟩ = some (.map (some (w.heap.size + 1 + 1))) := hG.c0
                    have cR : wr.cell? ⟨w.heap.size + 1 + 1 + 1, i, none⟩ = some (.pointer (some ⟨lkB w.heap.size i, 0, none⟩)) := hG.ls i c1
                    obtain ⟨hup, hG2⟩ := (hG.chg0 (W := wr.drew) (Chg.refl _ _).drew).upd i c1 hni
                    obtain ⟨W3, hW3⟩ : ∃ W3, setBlock wr.drew (w.heap.size + 1 + 1) (.map ((esB w.heap.size 1 hs).push { key := .pointer (some ⟨lkB w.heap.size i, 0, none⟩), val := .int .u8 1, born := hs.length }) (hs.length + 1)) = W3 := ⟨_, rfl⟩
                    rw [hW3] at hup hG2
                    have HG2 := hide hG2
                    clear hG hcell hG2 hW3 hwl hlt hni
                    by_cases hw : i = who
                    · have HW := hide hw
                      have hbw : ((i : Int) == (who : Int)) = true := by simp [hw]
                      clear hw
                      go_wp2
                      go_region
                      go_wp2
                      go_roundw
                      case rel => exact ⟨i + 1, hs ++ [i], by omega, by simp, fun x hx => by rcases List.mem_append.1 hx with hx | hx; exact Nat.lt_succ_of_lt (HLT.out x hx); simp at hx; omega, by simp; omega, wl, _, _, _, by rw [HWL.out]; simp [hwB, HW.out], by omega, rfl, HG2.out⟩
                      case measure => simp [intOf]; omega
                    · have hbw : ((i : Int) == (who : Int)) = false := by simp; omega
                      obtain ⟨bn, offn, rfl, hcapn, hbn, hcn⟩ := HIN.out.1 i c1
                      have cn0 : W3.cell? ⟨bn, offn + i, none⟩ = some (.int .i64 (num i)) := (HG2.out.below.cell (p := ⟨bn, offn + i, none⟩) hbn).trans hcn
                      obtain ⟨g, cap2, w3, hrun, hG3⟩ := HG2.out.app HI3.out (by omega) i
                      have HG3 := hide hG3
                      have HW := hide hw
                      clear hG3 hcn hw
                      go_wp2
                      go_region
                      go_wp2_with (at_builtin; refine wpList_append_raw rfl _ _ 74 rfl _ _ _ rfl rfl hrun ?_)
                      go_roundw
                      case rel => exact ⟨i + 1, hs ++ [i], by omega, by simp, fun x hx => by rcases List.mem_append.1 hx with hx | hx; exact Nat.lt_succ_of_lt (HLT.out x hx); simp at hx; omega, by simp; omega, wl ++ [i], _, _, _, by rw [HWL.out]; simp [hwB, HW.out], by simp; omega, rfl, HG3.out⟩
                      case measure => simp [intOf]; omega
                · have hd2 : decide ((i : Int) < (nh : Int)) = false := decide_eq_false (by omega)
                  clear hG hwl hlt
                  go_wp2
                  go_meet
                  case rel => exact HREL.out.out hn
              · have hd2 : decide ((i : Int) < (k : Int)) = false := decide_eq_false (by omega)
                clear hG hwl hlt
                go_wp2
                go_meet
                case rel => exact HREL.out.out hn
          · have HG0 := hide (HL.out.done 2)
            clear HL
            go_wp2
            go_loopw [20, 21] (fun v20 vi wx => ∃ i : Nat, i ≤ k ∧ vi = .int .i64 i ∧ v20 = .int .i64 (-1) ∧ G w wx k num 2 [] none [] false [] (.slice none 0 0)) (fun _ vi _ => k - (intOf vi).toNat)
            case atStart => exact ⟨0, Nat.zero_le _, rfl, rfl, HG0.out⟩
            case round =>
              clear HG0
              obtain ⟨i, hi, rfl, rfl, hG⟩ := hrel
              by_cases c1 : i < k
              · have i1 : (i : Int) < (k : Int) := by omega
                by_cases c2 : i < nh
                · have i2 : (i : Int) < (nh : Int) := by omega
                  obtain ⟨b, off, rfl, hcap, hb, hcell⟩ := HIN.out.2.1 i c2
                  have ch0 : wr.cell? ⟨b, off + i, none⟩ = some (.bool (hold i)) := (hG.below.cell (p := ⟨b, off + i, none⟩) hb).trans hcell
                  cases hh : hold i with
                  | false =>
                    rw [hh] at ch0
                    have HN := hide hG
                    clear hG hcell
                    go_wp2
                    go_roundw
                    case rel => exact ⟨i + 1, by omega, by simp, rfl, HN.out⟩
                    case measure => simp [intOf]; omega
                  | true =>
                    rw [hh] at ch0
                    have cI : wr.cell? ⟨w.heap.size + 1, 0, none⟩ = some (.map (some (w.heap.size + 1 + 1))) := hG.c0
                    have cR : wr.cell? ⟨w.heap.size + 1 + 1 + 1, i, none⟩ = some (.pointer (some ⟨lkB w.heap.size i, 0, none⟩)) := hG.ls i c1
                    obtain ⟨hup, hG2⟩ := (hG.chg0 (W := wr.drew) (Chg.refl _ _).drew).upd i c1 (by simp)
                    obtain ⟨W3, hW3⟩ : ∃ W3, setBlock wr.drew (w.heap.size + 1 + 1) (.map ((esB w.heap.size 2 []).push { key := .pointer (some ⟨lkB w.heap.size i, 0, none⟩), val := .int .u8 2, born := [].length (α := Nat) }) ([].length (α := Nat) + 1)) = W3 := ⟨_, rfl⟩
                    rw [hW3] at hup hG2
                    have cR2 : W3.cell? ⟨w.heap.size + 1 + 1 + 1, i, none⟩ = some (.pointer (some ⟨lkB w.heap.size i, 0, none⟩)) := hG2.ls i c1
                    have cX : W3.cell? ⟨w.heap.size + 1, 1, none⟩ = some (.pointer none) := hG2.c1
                    have fX : W3.frozen? ⟨w.heap.size + 1, 1, none⟩ = false := hG2.tI.frozen 1
                    have HG3 := hide (hG2.excl i)
                    have HB2 := hide hG2.below
                    clear hG hcell hG2 hW3
                    by_cases hw : i = who
                    · have HW := hide hw
                      have hbw : ((i : Int) == (who : Int)) = true := by simp [hw]
                      clear hw
                      go_wp2
                      go_region
                      go_wp2
                      go_meet
                      case rel => exact ⟨2, [i], some i, [], _, _, _, rfl, by simp [hwB, HW.out], by simp, by simp, (fun e he => (by cases he; exact c1)), HG3.out⟩
                    · have hbw : ((i : Int) == (who : Int)) = false := by simp; omega
                      have HW := hide hw
                      clear hw
                      obtain ⟨bn, offn, rfl, hcapn, hbn, hcn⟩ := HIN.out.1 i c1
                      have cn0 : W3.cell? ⟨bn, offn + i, none⟩ = some (.int .i64 (num i)) := (HB2.out.cell (p := ⟨bn, offn + i, none⟩) hbn).trans hcn
                      obtain ⟨g, cap2, w3, hrun, hG4⟩ := HG3.out.app HI3.out (by simp) i
                      rw [World.size_setCell] at hrun
                      have HR := hide hrun
                      have HG4 := hide hG4
                      clear hG4 hcn hrun
                      go_wp2
                      go_region
                      go_wp2_with (at_builtin; refine wpList_append_raw rfl _ _ 74 rfl _ _ _ rfl rfl HR.out ?_)
                      go_meet
                      case rel => exact ⟨2, [i], some i, [i], _, _, _, rfl, by simp [hwB, HW.out], by simp, by simp, (fun e he => (by cases he; exact c1)), HG4.out⟩
                · have hd2 : decide ((i : Int) < (nh : Int)) = false := decide_eq_false (by omega)
                  have HN := hide hG
                  clear hG
                  go_wp2
                  go_meet
                  case rel => exact ⟨2, [], none, [], none, 0, 0, rfl, by simp [hwB], by simp, by simp, (fun e he => (by cases he)), HN.out⟩
              · have hd2 : decide ((i : Int) < (k : Int)) = false := decide_eq_false (by omega)
                have HN := hide hG
                clear hG
                go_wp2
                go_meet
                case rel => exact ⟨2, [], none, [], none, 0, 0, rfl, by simp [hwB], by simp, by simp, (fun e he => (by cases he)), HN.out⟩
        case rest =>
          have HC := hide hcut
          clear hcut HL
          go_upto_block 6 with fail
          go_cut [19] from 23 to 203 (fun s19 wx => ∃ vi, I5 w k num true who s19 vi wx)
          case first =>
            go_wp2
            go_loopw [19, 23] (fun vv vi wr => I5 w k num true who vv vi wr) (fun _ vi _ => k - (intOf vi).toNat)
            case atStart => exact HC.out.in5
            case round =>
              clear HC
              have HREL := hide hrel
              obtain ⟨i, md, hs, ex, Q, a, wl, ao, len, cap, hi, rfl, rfl, hwl, hl1, hl2, hex, hQl, hQu, hG⟩ := hrel
              by_cases c1 : i < k
              · have i1 : (i : Int) < (k : Int) := by omega
                by_cases c2 : i < nw
                · have i2 : (i : Int) < (nw : Int) := by omega
                  obtain ⟨b, off, rfl, hcap, hb, hcell⟩ := HIN.out.2.2.1 i c2
                  have cw0 : wr.cell? ⟨b, off + i, none⟩ = some (.int .u8 (wt i)) := (hG.below.cell (p := ⟨b, off + i, none⟩) hb).trans hcell
                  obtain ⟨hw0, hw255⟩ := HIN.out.2.2.2 i
                  clear hcell
                  by_cases hw : i = who
                  · have hdw : decide ((i : Int) = (who : Int)) = true := decide_eq_true (by omega)
                    clear hG hwl hl1 hl2 hex hQl hQu
                    have HW := hide hw
                    clear hw
                    have hbw : ((i : Int) == (who : Int)) = true := by simp [HW.out]
                    go_wp2
                    go_roundw
                    case rel => exact HREL.out.skip c1
                    case measure => simp [intOf]; omega
                  · have hdw : decide ((i : Int) = (who : Int)) = false := decide_eq_false (by omega)
                    have hbw : ((i : Int) == (who : Int)) = false := by simp; omega
                    have hwl1000 : wl.length ≤ 1000 := by
                      rw [hwl, List.length_append, List.length_map]
                      have : (if true then Q else Q.filter isX).length ≤ Q.length := by
                        split
                        · exact Nat.le_refl _
                        · exact List.length_filter_le _ _
                      omega
                    have cR : wr.cell? ⟨w.heap.size + 1 + 1 + 1, i, none⟩ = some (.pointer (some ⟨lkB w.heap.size i, 0, none⟩)) := hG.ls i c1
                    have h3 : wt i % 3 = 0 ∨ wt i % 3 = 1 ∨ wt i % 3 = 2 := by omega
                    rcases h3 with h3 | h3 | h3
                    · clear hG hwl hl1 hl2 hex hQl hQu
                      go_wp2
                      go_roundw
                      case rel => exact HREL.out.skip c1
                      case measure => simp [intOf]; omega
                    · clear HREL
                      have HW := hide (hG.wait i 1 c1 (by simp) hQu (by omega))
                      have HWL := hide hwl
                      clear hG hwl
                      go_wp2_with (first
                        | (go_at_call 7; refine HW.out.mono ?_; rintro e W2 ⟨rfl, hG2⟩; have HG2 := hide hG2; obtain ⟨bn, offn, rfl, hcapn, hbn, hcn⟩ := HIN.out.1 i c1; have cn0 : W2.cell? ⟨bn, offn + i, none⟩ = some (.int .i64 (num i)) := (hG2.below.cell (p := ⟨bn, offn + i, none⟩) hbn).trans hcn; obtain ⟨g, cap2, w3, hrun, hG3⟩ := hG2.app HI3.out hwl1000 i; have HG3 := hide hG3; clear hG3 hcn; clear hG2)
                        | (at_builtin; refine wpList_append_raw rfl _ _ 74 rfl _ _ _ rfl rfl hrun ?_))
                      go_roundw
                      case rel => exact ⟨i + 1, md, hs, ex, Q ++ [⟨wr.heap.size, i, 1⟩], true, wl ++ [i], _, _, _, c1, by simp, rfl, by rw [HWL.out]; simp, hl1, hl2, hex, by simp; omega, fun x hx => by rcases List.mem_append.1 hx with hx | hx; exact Nat.lt_succ_of_lt (hQu x hx); simp at hx; subst hx; simp, HG3.out⟩
                      case measure => simp [intOf]; omega
                    · clear HREL
                      have HW := hide (hG.wait i 2 c1 (by simp) hQu (by omega))
                      have HWL := hide hwl
                      clear hG hwl
                      go_wp2_with (first
                        | (go_at_call 7; refine HW.out.mono ?_; rintro e W2 ⟨rfl, hG2⟩; have HG2 := hide hG2; obtain ⟨bn, offn, rfl, hcapn, hbn, hcn⟩ := HIN.out.1 i c1; have cn0 : W2.cell? ⟨bn, offn + i, none⟩ = some (.int .i64 (num i)) := (hG2.below.cell (p := ⟨bn, offn + i, none⟩) hbn).trans hcn; obtain ⟨g, cap2, w3, hrun, hG3⟩ := hG2.app HI3.out hwl1000 i; have HG3 := hide hG3; clear hG3 hcn; clear hG2)
                        | (at_builtin; refine wpList_append_raw rfl _ _ 74 rfl _ _ _ rfl rfl hrun ?_))
                      go_roundw
                      case rel => exact ⟨i + 1, md, hs, ex, Q ++ [⟨wr.heap.size, i, 2⟩], true, wl ++ [i], _, _, _, c1, by simp, rfl, by rw [HWL.out]; simp, hl1, hl2, hex, by simp; omega, fun x hx => by rcases List.mem_append.1 hx with hx | hx; exact Nat.lt_succ_of_lt (hQu x hx); simp at hx; subst hx; simp, HG3.out⟩
                      case measure => simp [intOf]; omega
                · have hd2 : decide ((i : Int) < (nw : Int)) = false := decide_eq_false (by omega)
                  clear hG hwl hl1 hl2 hex hQl hQu
                  go_wp2
                  go_meet
                  case rel => exact ⟨_, HREL.out⟩
              · have hd2 : decide ((i : Int) < (k : Int)) = false := decide_eq_false (by omega)
                clear hG hwl hl1 hl2 hex hQl hQu
                go_wp2
                go_meet
                case rel => exact ⟨_, HREL.out⟩
          case rest =>
            clear HC
            obtain ⟨vi, i, md, hs, ex, Q, a, wl, ao, len, cap, hi, _, rfl, hwl, hl1, hl2, hex, hQl, hQu, hG⟩ := hcut
            have cR : wc.cell? ⟨w.heap.size + 1 + 1 + 1, who, none⟩ = some (.pointer (some ⟨lkB w.heap.size who, 0, none⟩)) := hG.ls who hwn
            have iw : (who : Int) < (k : Int) := by omega
            have HF := hide (show Calls Yba.prog 8 #[.pointer (some ⟨wc.heap.size, 0, none⟩)] (wc.alloc (.cells #[.pointer (some ⟨lkB w.heap.size who, 0, none⟩), .pointer (some ⟨w.heap.size + 1, 0, none⟩), .int .u8 2, .int .i64 ((k : Int) + 1), .pointer none, .pointer none, .pointer none, .pointer none] 82)) _ from hG.fin who true hwn (by omega) hl2 hex hwl)
            clear hG hwl hl1 hl2 hex hQl hQu
            go_wp2_with (first
              | (go_at_call 8; refine HF.out.mono ?_; rintro e W1 ⟨zs, az, cz, rfl, hzl, hzp, h9⟩; have H9 := hide h9; clear h9)
              | (go_at_call 9; refine H9.out.mono ?_; rintro e W2 ⟨rfl, h10⟩; have H10 := hide h10; clear h10)
              | (go_at_call 10; refine H10.out.mono ?_; rintro e W3 ⟨v2, rfl, h11⟩; have H11 := hide h11; clear h11)
              | (go_at_call 11; refine H11.out.mono ?_; rintro e W4 ⟨rfl, hlast⟩; have HLA := hide hlast; clear hlast))
            go_loopw [29] (fun vi wr => ∃ j : Nat, 1 ≤ j ∧ j ≤ 2000 ∧ vi = .int .i64 j ∧ Chg (fun _ => False) W4 wr) (fun vi _ => 3000 - (intOf vi).toNat)
            case atStart => exact ⟨1, by omega, by omega, rfl, Chg.refl _ _⟩
            case round =>
              obtain ⟨j, hj1, hj2, rfl, hc⟩ := hrel
              by_cases hlt : j < zs.length
              · obtain ⟨bz, rfl, hz⟩ := HLA.out.2 j hlt
                obtain ⟨p, hp⟩ : ∃ p, j = p + 1 := ⟨j - 1, by omega⟩
                have i1 : (j : Int) < (zs.length : Int) := by omega
                have i2 : (p : Int) < (zs.length : Int) := by omega
                have z1 : wr.cell? ⟨bz, j, none⟩ = some (.int .i64 (zs.getD j 0)) := hc.cell (hz j hlt)
                have z2 : wr.cell? ⟨bz, p, none⟩ = some (.int .i64 (zs.getD p 0)) := hc.cell (hz p (by omega))
                have e3 : IntKind.i64.wrap ((j : Int) - 1) = (p : Int) := wrap_pred j p hp (by omega)
                have hlt2 : zs.getD p 0 < zs.getD j 0 := by
                  have := List.pairwise_iff_getElem.1 hzp p j (by omega) hlt (by omega)
                  simpa [List.getD_eq_getElem?_getD, hlt, show p < zs.length by omega] using this
                obtain ⟨xj, hxj⟩ : ∃ xj, zs.getD j 0 = xj := ⟨_, rfl⟩
                obtain ⟨xp, hxp⟩ : ∃ xp, zs.getD p 0 = xp := ⟨_, rfl⟩
                rw [hxj] at z1 hlt2
                rw [hxp] at z2 hlt2
                have hdz : decide (xj ≤ xp) = false := decide_eq_false (by omega)
                clear hxj hxp hp hz
                go_wp2
                go_quiet (fail)
                go_wp2
                go_roundw
                case rel => exact ⟨j + 1, by omega, by omega, by go_num, hc.drewN _⟩
                case measure => simp [intOf]; omega
              · have hd5 : decide ((j : Int) < (zs.length : Int)) = false := decide_eq_false (by omega)
                go_wp2
                go_ret
                exact ⟨rfl, HLA.out.1.trans (hc.below HLA.out.1.size (fun _ _ h => h))⟩

end Go.Proofs.Ybulkadpy
