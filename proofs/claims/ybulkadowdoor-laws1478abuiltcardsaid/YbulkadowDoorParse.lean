/-
  internal/strconv.ParseUint(s, 16, 16) at four bytes: the walk (after the shelf's walk at base 10).
-/
import Derived.Test.YbulkadowDoorRows
import Derived.Test.YbulkadowDoorPlain
import Derived.Lib.Strings
import Derived.Lib.Walk
import Derived.Lib.ConvBytes
import Derived.Lib.Hide
import Derived.Laws.Strings3
import Derived.Laws.Closers25
import Derived.Laws.Closers25b
import Derived.WalkKit
import Derived.BigCall
import Derived.BigGuard
namespace Go.Proofs.YbulkadowDoor
open Go.RowKit

/-- internal/strconv.lower. -/
theorem lower_any (c : UInt8) (w : World) :
    Calls Ybad.prog 10 #[.int .u8 (c.toNat : Int)] w fun e w' => e = .returned (.int .u8 (low c)) ∧ w' = w := by
  go_enter Ybad.func10, Ybad.ntmps10
  go_wp2
  go_ret
  exact ⟨rfl, rfl⟩

/-- What the inner ParseUint hands back: the number, or ErrSyntax. -/
def inner : Option Nat → Value
  | some n => .tuple #[.int .u64 (n : Int), .nilIface]
  | Option.none => .tuple #[.int .u64 0, .iface 34 (.int .i64 2)]

theorem pow4 (k : Nat) (h : k < 4) : 16 ^ k * 16 ≤ 65536 := by
  have : k = 0 ∨ k = 1 ∨ k = 2 ∨ k = 3 := by omega
  rcases this with rfl | rfl | rfl | rfl <;> decide

set_option maxHeartbeats 32000000 in
set_option maxRecDepth 100000 in
theorem parse16 (t : ByteArray) (h4 : t.size = 4) (w : World) :
    Calls Ybad.prog 8 #[.string t, .int .i64 16, .int .i64 16] w fun e w' => e = .returned (inner (hexv 0 t.data.toList)) ∧ w' = Lib.bytesWorld w 5 t := by
  have hemp : t.toList.isEmpty = false := by
    rw [← decide_eq_emptyBytes]
    exact decide_eq_false (fun h => by rw [h] at h4; cases h4)
  have hcv := Lib.run_convert_string_bytes (P := Ybad.prog) w 9 22 5 t (u := .string) Ybad.underlying9 Ybad.underlying22 Ybad.underlying5
  have hB : ∀ j, j < t.size → (Lib.bytesWorld w 5 t).cell? ⟨w.heap.size, j, none⟩ = some (.int .u8 (t.data.toList.getD j 0).toNat) := fun j hj => Lib.bytesWorld_cell w 5 t j hj
  obtain ⟨W1, hW1⟩ : ∃ W1, W1 = Lib.bytesWorld w 5 t := ⟨_, rfl⟩
  rw [← hW1] at hcv hB ⊢
  clear hW1
  obtain ⟨bs, hL⟩ : ∃ bs, bs = t.data.toList := ⟨_, rfl⟩
  have hLn : bs.length = t.size := by rw [hL, Lib.size_eq]
  rw [← hL] at hB ⊢
  clear hL
  have hmv : IntKind.u64.wrap (IntKind.u64.wrap 65536 - 1) = 65535 := by
    rw [IntKind.wrap_u64, IntKind.wrap_u64]
    decide
  have H4 : Hid (t.size = 4) := h4
  have h4' : t.size ≤ 4 := by omega
  clear h4
  go_enter Ybad.func8, Ybad.ntmps8
  go_wp2
  go_loop [12, 13, 101] (fun vu vn vi => ∃ (k acc : Nat) (a : Int), vu = .bool false ∧ vn = .int .u64 a ∧ vi = .int .i64 k ∧ k ≤ t.size ∧ Hid (a = (acc : Int) ∧ acc < 16 ^ k ∧ hexv 0 bs = hexv acc (bs.drop k)))
    (fun _ _ vi => t.size - (intOf vi).toNat)
  case atStart => exact ⟨0, 0, 0, rfl, rfl, rfl, by omega, rfl, by decide, rfl⟩
  case round =>
    obtain ⟨k, acc, a, rfl, rfl, rfl, hk, hh⟩ := hrel
    obtain ⟨ha, hacc, hdec⟩ := hh.out
    clear hh
    by_cases hkn : k < t.size
    · have hc := hB k hkn
      have hp := pow4 k (by omega)
      have a0 : 0 ≤ a := by omega
      have a1 : a ≤ 4095 := by omega
      have hdrop : bs.drop k = bs[k]'(by omega) :: bs.drop (k + 1) := List.drop_eq_getElem_cons (by omega)
      have hget : bs.getD k 0 = bs[k]'(by omega) := by simp [List.getD, List.getElem?_eq_getElem (show k < bs.length by omega)]
      rw [hdrop] at hdec
      rw [hget] at hc
      generalize bs[k]'(by omega) = c at hc hdec
      have hc256 : c.toNat < 256 := c.toNat_lt
      clear hB hdrop hget
      by_cases hdig : 48 ≤ c.toNat ∧ c.toNat ≤ 57
      · have hF := hexv_cons_some acc c (bs.drop (k + 1)) (c.toNat - 48) (by simp [hexd, hdig])
        obtain ⟨hd0, hd1⟩ := hdig
        have HN : Hid (a * 16 + ((c.toNat : Int) - 48) = ((acc * 16 + (c.toNat - 48) : Nat) : Int) ∧ acc * 16 + (c.toNat - 48) < 16 ^ (k + 1) ∧ hexv 0 bs = hexv (acc * 16 + (c.toNat - 48)) (bs.drop (k + 1))) := Lib.hid ⟨by omega, by rw [Nat.pow_succ]; omega, hdec.trans hF⟩
        clear hacc hF hdec ha hp
        go_wp2
        refine ⟨⟨k + 1, acc * 16 + (c.toNat - 48), a * 16 + ((c.toNat : Int) - 48), rfl, (by first | rfl | (congr 1; omega)), (by first | rfl | (congr 1; omega)), by omega, HN⟩, by simp [intOf]; omega⟩
      · have hl := low_bd c
        rcases low_of c hdig with ⟨g5, g0, g1, g2⟩ | ⟨g2, g3⟩
        · have hF := hexv_cons_some acc c (bs.drop (k + 1)) _ g2
          have HN : Hid (a * 16 + (low c - 87) = ((acc * 16 + (low c - 87).toNat : Nat) : Int) ∧ acc * 16 + (low c - 87).toNat < 16 ^ (k + 1) ∧ hexv 0 bs = hexv (acc * 16 + (low c - 87).toNat) (bs.drop (k + 1))) := Lib.hid ⟨by omega, by rw [Nat.pow_succ]; omega, hdec.trans hF⟩
          have b95 : ((c.toNat : Int) == 95) = false := beq_eq_false_iff_ne.2 (by omega)
          clear hacc hF hdec ha hp g2
          by_cases h48 : (48 : Int) ≤ c.toNat
          · have h57 : ¬ (c.toNat : Int) ≤ 57 := by omega
            clear hdig
            go_wp2_with (go_at_call 10; refine (lower_any _ _).mono ?_; rintro e w' ⟨rfl, rfl⟩)
            refine ⟨⟨k + 1, acc * 16 + (low c - 87).toNat, a * 16 + (low c - 87), rfl, (by first | rfl | (congr 1; omega)), (by first | rfl | (congr 1; omega)), by omega, HN⟩, by simp [intOf]; omega⟩
          · clear hdig
            go_wp2_with (go_at_call 10; refine (lower_any _ _).mono ?_; rintro e w' ⟨rfl, rfl⟩)
            refine ⟨⟨k + 1, acc * 16 + (low c - 87).toNat, a * 16 + (low c - 87), rfl, (by first | rfl | (congr 1; omega)), (by first | rfl | (congr 1; omega)), by omega, HN⟩, by simp [intOf]; omega⟩
        · have hF := hexv_cons_none acc c (bs.drop (k + 1)) g2
          rw [hF] at hdec
          clear hacc hF ha hp g2
          by_cases h95 : c.toNat = 95
          · have b95 : ((c.toNat : Int) == 95) = true := beq_iff_eq.2 (by omega)
            have h48 : (48 : Int) ≤ c.toNat := by omega
            have h57 : ¬ (c.toNat : Int) ≤ 57 := by omega
            clear h95 hdig
            by_cases g6 : 97 ≤ low c
            · have g7 : 102 < low c := by omega
              clear g3
              go_wp2_with (go_at_call 10; refine (lower_any _ _).mono ?_; rintro e w' ⟨rfl, rfl⟩)
              all_goals go_ret2
              all_goals first | exact ⟨rfl, rfl⟩ | exact ⟨by rw [hdec]; rfl, rfl⟩
            · clear g3
              go_wp2_with (go_at_call 10; refine (lower_any _ _).mono ?_; rintro e w' ⟨rfl, rfl⟩)
              all_goals go_ret2
              all_goals first | exact ⟨rfl, rfl⟩ | exact ⟨by rw [hdec]; rfl, rfl⟩
          · have b95 : ((c.toNat : Int) == 95) = false := beq_eq_false_iff_ne.2 (by omega)
            clear h95
            by_cases h48 : (48 : Int) ≤ c.toNat
            all_goals by_cases g6 : 97 ≤ low c
            all_goals go_wp2_with (go_at_call 10; refine (lower_any _ _).mono ?_; rintro e w' ⟨rfl, rfl⟩)
            all_goals go_ret2
            all_goals first | exact ⟨rfl, rfl⟩ | exact ⟨by rw [hdec]; rfl, rfl⟩
    · have hkk : k = t.size := by omega
      subst hkk
      have hF : hexv acc (bs.drop t.size) = some acc := by rw [List.drop_eq_nil_of_le (by omega)]; rfl
      rw [hF] at hdec
      subst ha
      clear hacc hF
      go_wp2
      go_ret2
      exact ⟨rfl, rfl⟩

end Go.Proofs.YbulkadowDoor
