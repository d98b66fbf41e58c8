/-
  hex4, and the law's own digit.
-/
import Derived.Test.YbulkadowDoorHex
namespace Go.Proofs.YbulkadowDoor
open Go.RowKit

def bytesOf (xs : List Int) : List UInt8 := xs.map fun n => UInt8.ofNat n.toNat

theorem ret_int {k : IntKind} {a b : Int} (h : a = b) : Ending.returned (.int k a) = .returned (.int k b) := by rw [h]

set_option maxHeartbeats 400000 in
theorem hex4_short (a : Option Addr) (len cap : Nat) (h : len < 4) (w : World) :
    Calls Ybad.prog 5 #[.slice a len cap] w fun e w' => e = .returned (.int .i64 (-1)) ∧ Below w.heap.size w w' := by
  go_enter Ybad.func5, Ybad.ntmps5
  go_wp2
  go_ret
  exact ⟨rfl, Below.refl _ _⟩

set_option maxHeartbeats 400000 in
theorem hex4_full (b off len cap : Nat) (xs : List Int) (hx : xs.length = 4) (h4 : 4 ≤ len) (hc : len ≤ cap) (w : World) (hcell : ∀ i, i < 4 → w.cell? ⟨b, off + i, none⟩ = some (.int .u8 (xs.getD i 0)))
    (ev : Value) (hv : w.cell? ⟨0, 0, none⟩ = some ev) (hev : ev = .nilIface ∨ ∃ te pe, ev = .iface te pe) :
    Calls Ybad.prog 5 #[.slice (some ⟨b, off, none⟩) len cap] w fun e w' => e = .returned (.int .i64 (hexI (bytesOf xs))) ∧ Below w.heap.size w w' := by
  have hcv := run_convert_bytes_arg (P := Ybad.prog) w 22 5 Ybad.underlying22 Ybad.underlying5 b off 4 cap xs hx hcell 9 Ybad.underlying9
  have hs4 : (strOfNums xs).size = 4 := by rw [strOfNums_size, hx]
  have hn0 : hexv 0 (strOfNums xs).data.toList = hexv 0 (bytesOf xs) := by rw [strOfNums_data]; rfl
  cases hn : hexv 0 (bytesOf xs) with
  | some n =>
    rw [hn] at hn0
    have HP : Hid (Calls Ybad.prog 7 #[.string (strOfNums xs), .int .i64 16, .int .i64 16] w fun e w' => e = .returned (.tuple #[.int .u64 (n : Int), .nilIface]) ∧ Below w.heap.size w w') := pub_ok _ hs4 n hn0 w
    have HR : Hid (hexI (bytesOf xs) = (n : Int)) := by unfold hexI; rw [hn]; exact rfl
    have hlt : n < 65536 := by
      have := hexv_lt (bytesOf xs) 0 0 n (by decide) hn
      have e : (bytesOf xs).length = 4 := by simp [bytesOf, hx]
      rw [e] at this
      exact this
    clear hn hn0 hs4 hcell hv hev hx
    generalize strOfNums xs = t at *
    go_enter Ybad.func5, Ybad.ntmps5
    go_wp2_with (go_at_call 7; refine HP.out.mono ?_; rintro e w' ⟨rfl, h2⟩)
    go_ret
    exact ⟨ret_int (by rw [HR.out]), h2⟩
  | none =>
    rw [hn] at hn0
    have HP : Hid (Calls Ybad.prog 7 #[.string (strOfNums xs), .int .i64 16, .int .i64 16] w fun e w' => (∃ N, e = .returned (.tuple #[.int .u64 0, .iface 38 (.pointer (some ⟨N, 0, none⟩))])) ∧ Below w.heap.size w w') := pub_bad _ hs4 hn0 w ev hv hev
    have HR : Hid (hexI (bytesOf xs) = -1) := by unfold hexI; rw [hn]; exact rfl
    clear hn hn0 hs4 hcell hv hev hx
    generalize strOfNums xs = t at *
    go_enter Ybad.func5, Ybad.ntmps5
    go_wp2_with (go_at_call 7; refine HP.out.mono ?_; rintro e w' ⟨⟨N, rfl⟩, h2⟩)
    go_ret
    exact ⟨ret_int (by rw [HR.out]), h2⟩

/-- The law's own digit: its value, or -1. -/
def digI (c : Int) : Int :=
  if 48 ≤ c ∧ c ≤ 57 then c - 48 else if 97 ≤ c ∧ c ≤ 102 then c - 87 else if 65 ≤ c ∧ c ≤ 70 then c - 55 else -1

set_option maxHeartbeats 400000 in
theorem digit_any (c : Int) (h0 : 0 ≤ c) (h1 : c ≤ 255) (w : World) :
    Calls Ybad.prog 6 #[.int .u8 c] w fun e w' => e = .returned (.int .i64 (digI c)) ∧ w' = w := by
  have HD : Hid (digI c = if 48 ≤ c ∧ c ≤ 57 then c - 48 else if 97 ≤ c ∧ c ≤ 102 then c - 87 else if 65 ≤ c ∧ c ≤ 70 then c - 55 else -1) := rfl
  go_enter Ybad.func6, Ybad.ntmps6
  go_wp2
  all_goals go_ret
  all_goals exact ⟨ret_int (by rw [HD.out]; repeat' split; all_goals omega), rfl⟩

end Go.Proofs.YbulkadowDoor
