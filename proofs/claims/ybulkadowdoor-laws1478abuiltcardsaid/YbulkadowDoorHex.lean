/-
  strconv.ParseUint(s, 16, 16) at four bytes, and hex4.
-/
import Derived.Test.YbulkadowDoorParse
import Derived.Test.YbulkadowDoorShelf
import Derived.Lib.AtoiErrMem
import Derived.Laws.BytesArg
import Derived.WalkSpells
import Derived.WalkLawsBesides
namespace Go.Proofs.YbulkadowDoor
open Go.RowKit

set_option maxHeartbeats 400000 in
theorem pub_ok (t : ByteArray) (h4 : t.size = 4) (n : Nat) (hn : hexv 0 t.data.toList = some n) (w : World) :
    Calls Ybad.prog 7 #[.string t, .int .i64 16, .int .i64 16] w fun e w' => e = .returned (.tuple #[.int .u64 (n : Int), .nilIface]) ∧ Below w.heap.size w w' := by
  have hp := parse16 t h4 w
  rw [hn] at hp
  have HP : Hid (Calls Ybad.prog 8 #[.string t, .int .i64 16, .int .i64 16] w fun e w' => e = .returned (inner (some n)) ∧ w' = Lib.bytesWorld w 5 t) := hp
  clear hp hn h4
  go_enter Ybad.func7, Ybad.ntmps7
  go_wp2_with (go_at_call 8; refine HP.out.mono ?_; rintro e w' ⟨rfl, rfl⟩; unfold inner)
  go_ret2
  exact ⟨rfl, Lib.bytesWorld_below _ _ _⟩

set_option maxHeartbeats 400000 in
theorem pub_bad (t : ByteArray) (h4 : t.size = 4) (hn : hexv 0 t.data.toList = none) (w : World) (ev : Value) (hv : w.cell? ⟨0, 0, none⟩ = some ev) (hev : ev = .nilIface ∨ ∃ te pe, ev = .iface te pe) :
    Calls Ybad.prog 7 #[.string t, .int .i64 16, .int .i64 16] w fun e w' => (∃ N, e = .returned (.tuple #[.int .u64 0, .iface 38 (.pointer (some ⟨N, 0, none⟩))])) ∧ Below w.heap.size w w' := by
  have hp := parse16 t h4 w
  rw [hn] at hp
  have HP : Hid (Calls Ybad.prog 8 #[.string t, .int .i64 16, .int .i64 16] w fun e w' => e = .returned (inner none) ∧ w' = Lib.bytesWorld w 5 t) := hp
  have hlt : 0 < w.heap.size := Lib.lt_of_cell hv
  have hB := Lib.bytesWorld_below w 5 t
  have hv1 : (Lib.bytesWorld w 5 t).cell? ⟨0, 0, none⟩ = some ev := (hB.cell (p := ⟨0, 0, none⟩) hlt).trans hv
  have hsz : t.size ≤ 281474976710656 := by omega
  have HT : Hid (∀ fn : ByteArray, Calls Ybad.prog 9 #[.string fn, .string t, .int .i64 16, .int .i64 16, .iface 34 (.int .i64 2)] (Lib.bytesWorld w 5 t) fun e w' => ∃ N, e = .returned (.iface 38 (.pointer (some ⟨N, 0, none⟩))) ∧ Below (Lib.bytesWorld w 5 t).heap.size (Lib.bytesWorld w 5 t) w') :=
    fun fn => (Ybad.strconv_toError_syntax fn t 16 16 ev _ hsz hv1 hev).mono fun e w' ⟨N, h1, _, _, h2⟩ => ⟨N, h1, h2⟩
  have HB : Hid (Below w.heap.size w (Lib.bytesWorld w 5 t)) := hB
  clear hp hn h4 hv1 hB hv hev hsz
  generalize Lib.bytesWorld w 5 t = W1 at *
  go_enter Ybad.func7, Ybad.ntmps7
  go_wp2_with (first | (go_at_call 8; refine HP.out.mono ?_; rintro e w' ⟨rfl, rfl⟩; unfold inner) | (go_at_call 9; refine (HT.out _).mono ?_; rintro e w' ⟨N, rfl, h2⟩))
  go_ret2
  exact ⟨⟨_, rfl⟩, HB.out.trans (h2.mono HB.out.size)⟩

end Go.Proofs.YbulkadowDoor
