/-
  LawS1478AAgrees: the walk.
-/
import Derived.Test.YbulkadowDoorHex4
namespace Go.Proofs.YbulkadowDoor
open Go.RowKit

theorem digI_some (c : Int) (h0 : 0 ≤ c) (h1 : c ≤ 255) (d : Nat) (h : hexd (UInt8.ofNat c.toNat) = some d) : digI c = (d : Int) := by
  have e : (UInt8.ofNat c.toNat).toNat = c.toNat := by simp; omega
  unfold hexd at h
  rw [e] at h
  unfold digI
  split at h
  · cases h; rw [if_pos (by omega)]; omega
  · split at h
    · cases h; rw [if_neg (by omega), if_pos (by omega)]; omega
    · split at h
      · cases h; rw [if_neg (by omega), if_neg (by omega), if_pos (by omega)]; omega
      · cases h

theorem digI_none (c : Int) (h0 : 0 ≤ c) (h1 : c ≤ 255) (h : hexd (UInt8.ofNat c.toNat) = none) : digI c = -1 := by
  have e : (UInt8.ofNat c.toNat).toNat = c.toNat := by simp; omega
  unfold hexd at h
  rw [e] at h
  unfold digI
  split at h
  · cases h
  · split at h
    · cases h
    · split at h
      · cases h
      · rw [if_neg (by omega), if_neg (by omega), if_neg (by omega)]

set_option maxHeartbeats 400000 in
theorem agrees_short (a : Option Addr) (len cap : Nat) (h : len < 4) (w : World) :
    Calls Ybad.prog 3 #[.slice a len cap] w fun e w' => e = .returned (.bool true) ∧ Below w.heap.size w w' := by
  go_enter Ybad.func3, Ybad.ntmps3
  go_wp2_with (go_at_call 5; refine (hex4_short _ _ _ h _).mono ?_; rintro e w' ⟨rfl, h2⟩)
  go_ret
  exact ⟨rfl, h2⟩

theorem ret_bool {b : Bool} (h : b = true) : Ending.returned (.bool b) = .returned (.bool true) := by rw [h]

set_option maxHeartbeats 1000000 in
theorem agrees_full (b off len cap : Nat) (xs : List Int) (hx : xs.length = 4) (hbd : ∀ i, 0 ≤ xs.getD i 0 ∧ xs.getD i 0 ≤ 255) (h4 : 4 ≤ len) (hc : len ≤ cap) (w : World) (hcell : ∀ i, i < 4 → w.cell? ⟨b, off + i, none⟩ = some (.int .u8 (xs.getD i 0)))
    (hb : b < w.heap.size) (ev : Value) (hv : w.cell? ⟨0, 0, none⟩ = some ev) (hev : ev = .nilIface ∨ ∃ te pe, ev = .iface te pe) :
    Calls Ybad.prog 3 #[.slice (some ⟨b, off, none⟩) len cap] w fun e w' => e = .returned (.bool true) ∧ Below w.heap.size w w' := by
  have HH : Hid (Calls Ybad.prog 5 #[.slice (some ⟨b, off, none⟩) len cap] w fun e w' => e = .returned (.int .i64 (hexI (bytesOf xs))) ∧ Below w.heap.size w w') := hex4_full b off len cap xs hx h4 hc w hcell ev hv hev
  obtain ⟨G, hG⟩ : ∃ G, G = hexI (bytesOf xs) := ⟨_, rfl⟩
  rw [← hG] at HH
  have HG : Hid (G = hexI (bytesOf xs)) := hG
  have HC : Hid (∀ i, i < 4 → w.cell? ⟨b, off + i, none⟩ = some (.int .u8 (xs.getD i 0))) := hcell
  have HBD : Hid (∀ i, 0 ≤ xs.getD i 0 ∧ xs.getD i 0 ≤ 255) := hbd
  have HX : Hid (xs.length = 4) := hx
  clear hG hcell hv hev hx hbd
  go_enter Ybad.func3, Ybad.ntmps3
  go_wp2_with (go_at_call 5; refine HH.out.mono ?_; rintro e w1 ⟨rfl, h2⟩)
  go_loop [4, 5] (fun vv vi => ∃ (k acc : Nat), k ≤ 4 ∧ vi = .int .i64 k ∧ vv = .int .i64 acc ∧ Hid (acc < 16 ^ k ∧ hexv 0 (bytesOf xs) = hexv acc ((bytesOf xs).drop k))) (fun _ vi => 4 - (intOf vi).toNat)
  case atStart => exact ⟨0, 0, by omega, rfl, rfl, by decide, rfl⟩
  case round =>
    obtain ⟨k, acc, hk, rfl, rfl, hh⟩ := hrel
    obtain ⟨hacc, hdec⟩ := hh.out
    clear hh
    by_cases hlt : k < 4
    · have hcell : w1.cell? ⟨b, off + k, none⟩ = some (.int .u8 (xs.getD k 0)) := (h2.cell (p := ⟨b, off + k, none⟩) hb).trans (HC.out k hlt)
      have hbd := HBD.out k
      have hp := pow4 k hlt
      have hacc2 : acc ≤ 4095 := by omega
      have hl : (bytesOf xs).length = 4 := by simp [bytesOf, HX.out]
      have hxl := HX.out
      have hdrop : (bytesOf xs).drop k = (UInt8.ofNat (xs.getD k 0).toNat) :: (bytesOf xs).drop (k + 1) := by
        rw [List.drop_eq_getElem_cons (by omega)]
        congr 1
        simp [bytesOf, List.getD, List.getElem?_eq_getElem (show k < xs.length by omega)]
      rw [hdrop] at hdec
      clear hdrop hl hxl
      generalize xs.getD k 0 = c at *
      obtain ⟨c0, c1⟩ := hbd
      cases hd : hexd (UInt8.ofNat c.toNat) with
      | some d =>
        have e1 := digI_some c c0 c1 d hd
        have e2 := hexd_lt _ d hd
        rw [hexv_cons_some acc _ _ d hd] at hdec
        have HN : Hid (acc * 16 + d < 16 ^ (k + 1) ∧ hexv 0 (bytesOf xs) = hexv (acc * 16 + d) ((bytesOf xs).drop (k + 1))) := ⟨by rw [Nat.pow_succ]; omega, hdec⟩
        have HD : Hid (digI c = (d : Int)) := e1
        have d0 : 0 ≤ digI c := by omega
        have d1 : digI c ≤ 15 := by omega
        clear hdec hd e1 hacc hp
        go_wp2_with (go_at_call 6; refine (digit_any _ c0 c1 _).mono ?_; rintro e w' ⟨rfl, rfl⟩)
        go_round
        case rel => exact ⟨k + 1, acc * 16 + d, by omega, by go_num, by rw [HD.out]; go_num, HN⟩
        case measure => simp [intOf]; omega
      | none =>
        have e1 := digI_none c c0 c1 hd
        rw [hexv_cons_none acc _ _ hd] at hdec
        have hG1 : (G == -1) = true := by
          rw [HG.out]; unfold hexI; rw [hdec]; exact rfl
        have d0 : digI c < 0 := by omega
        clear hdec hd e1 hacc hp
        go_wp2_with (go_at_call 6; refine (digit_any _ c0 c1 _).mono ?_; rintro e w' ⟨rfl, rfl⟩)
        go_ret
        exact ⟨rfl, h2⟩
    · have hkk : k = 4 := by omega
      subst hkk
      have hl : (bytesOf xs).length = 4 := by simp [bytesOf, HX.out]
      rw [List.drop_eq_nil_of_le (by omega)] at hdec
      have hG1 : (G == (acc : Int)) = true := by
        rw [HG.out]; unfold hexI; rw [hdec]; simp [hexv]
      clear hdec hl
      go_wp2
      go_ret
      exact ⟨rfl, h2⟩

end Go.Proofs.YbulkadowDoor
