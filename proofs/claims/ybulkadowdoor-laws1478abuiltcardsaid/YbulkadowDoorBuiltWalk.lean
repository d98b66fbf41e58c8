/-
  LawS1478ABuilt: the walk.
-/
import Derived.Test.YbulkadowDoorHex4
namespace Go.Proofs.YbulkadowDoor
open Go.RowKit

theorem Ybad.info5 : (Ybad.prog.info? 5).map (fun i => (i.zero, i.size, i.bytes)) = some (some (.int .u8 0), 1, 1) := by kernel_rfl

/-- The table's byte at q. -/
def tbl (q : Int) : Int := if q < 10 then q + 48 else if q < 16 then q + 87 else q + 49
/-- Its value as a digit. -/
def dvl (q : Int) : Int := if q < 16 then q else q - 6

theorem table_at (q : Int) (h0 : 0 ≤ q) (h1 : q < 22) (w : World) : (Instr.index 9 (.string ⟨#[48, 49, 50, 51, 52, 53, 54, 55, 56, 57, 97, 98, 99, 100, 101, 102, 65, 66, 67, 68, 69, 70]⟩) (.int .i64 q)).run Ybad.prog w = .ok (.int .u8 (tbl q)) w := by
  obtain ⟨n, rfl⟩ := Int.eq_ofNat_of_zero_le h0
  have : n = 0 ∨ n = 1 ∨ n = 2 ∨ n = 3 ∨ n = 4 ∨ n = 5 ∨ n = 6 ∨ n = 7 ∨ n = 8 ∨ n = 9 ∨ n = 10 ∨ n = 11 ∨ n = 12 ∨ n = 13 ∨ n = 14 ∨ n = 15 ∨ n = 16 ∨ n = 17 ∨ n = 18 ∨ n = 19 ∨ n = 20 ∨ n = 21 := by omega
  rcases this with rfl | rfl | rfl | rfl | rfl | rfl | rfl | rfl | rfl | rfl | rfl | rfl | rfl | rfl | rfl | rfl | rfl | rfl | rfl | rfl | rfl | rfl
  all_goals rfl

theorem tbl_digit : ∀ n : Fin 22, hexd (UInt8.ofNat (tbl (n.val : Int)).toNat) = some (dvl (n.val : Int)).toNat := by decide +kernel
theorem tbl_dig (q : Int) (h0 : 0 ≤ q) (h1 : q < 22) : hexd (UInt8.ofNat (tbl q).toNat) = some (dvl q).toNat := by
  obtain ⟨n, rfl⟩ := Int.eq_ofNat_of_zero_le h0
  exact tbl_digit ⟨n, by omega⟩

theorem hexv_snoc : ∀ (l : List UInt8) (acc n : Nat) (c : UInt8) (d : Nat), hexv acc l = some n → hexd c = some d → hexv acc (l ++ [c]) = some (n * 16 + d)
  | [], acc, n, c, d, h, e => by
    simp only [hexv, Option.some.injEq] at h
    subst h
    rw [List.nil_append, hexv_cons_some _ _ _ d e]
    rfl
  | x :: l, acc, n, c, d, h, e => by
    cases hx : hexd x with
    | none => rw [hexv_cons_none acc x l hx] at h; cases h
    | some y =>
      rw [hexv_cons_some acc x l y hx] at h
      rw [List.cons_append, hexv_cons_some acc x _ y hx]
      exact hexv_snoc l _ n c d h e

set_option maxHeartbeats 1000000 in
theorem built_any (a b c d : Int) (ao : Option Addr) (len cap : Nat) (zs : List Int) (w : World)
    (ha : 0 ≤ a ∧ a ≤ 255) (hb : 0 ≤ b ∧ b ≤ 255) (hc : 0 ≤ c ∧ c ≤ 255) (hd : 0 ≤ d ∧ d ≤ 255) (hlen : len ≤ 1024) (hz : zs.length = len)
    (hnone : ao = none → len = 0 ∧ cap = 0) (hcell : ∀ ad, ao = some ad → ∀ j u, (zs.map (Value.int .u8))[j]? = some u → w.cell? (ad.add j) = some u)
    (ev : Value) (hv : w.cell? ⟨0, 0, none⟩ = some ev) (hev : ev = .nilIface ∨ ∃ te pe, ev = .iface te pe) :
    Calls Ybad.prog 4 #[.int .u8 a, .int .u8 b, .int .u8 c, .int .u8 d, .slice ao len cap] w fun e w' => e = .returned (.bool true) ∧ Below w.heap.size w w' := by
  obtain ⟨i0, hi, hz0, hz1, hz2⟩ := info_parts Ybad.info5
  have HV : Hid (w.cell? ⟨0, 0, none⟩ = some ev) := hv
  have HE : Hid (ev = .nilIface ∨ ∃ te pe, ev = .iface te pe) := hev
  have HN : Hid (ao = none → len = 0 ∧ cap = 0) := hnone
  have HC : Hid (∀ ad, ao = some ad → ∀ j u, (zs.map (Value.int .u8))[j]? = some u → w.cell? (ad.add j) = some u) := hcell
  have HZ : Hid (zs.length = len) := hz
  clear hv hev hnone hcell hz
  have h1024 : decide ((1024 : Int) < (len : Int)) = false := decide_eq_false (by omega)
  go_enter Ybad.func4, Ybad.ntmps4
  go_wp2_with (at_make; refine wpList_make_own _ rfl _ _ 22 rfl (w.heap.size + 1) 5 i0 (.int .u8 0) 1 Ybad.underlying22 hi hz0 hz1 _ _ _ (4 + len) rfl rfl (by omega) ?b2 ?b3 (by simp) ?_)
  case b2 => rw [hz2]; omega
  case b3 => unfold maxLen; omega
  intro w0 hown0 hgrow0
  go_wp2
  have HB0 := (Below.refl (w.heap.size + 1) (w.alloc (.cells #[.int .u8 a, .int .u8 b, .int .u8 c, .int .u8 d] 26))).grown hgrow0 (by simp) (fun k h => by cases h)
  clear hgrow0
  go_loopw [12, 13, 14] (fun vb vv vk wr => ∃ (k acc : Nat) (xs : List Int), k ≤ 4 ∧ vb = .slice (some ⟨w.heap.size + 1, 0, none⟩) k (4 + len) ∧ vv = .int .i64 acc ∧ vk = .int .i64 k ∧
      wr.ownsRow (w.heap.size + 1) 5 1 (.slice (some ⟨w.heap.size + 1, 0, none⟩) k (4 + len)) k (xs.map (Value.int .u8)) ∧ Below (w.heap.size + 1) (w.alloc (.cells #[.int .u8 a, .int .u8 b, .int .u8 c, .int .u8 d] 26)) wr ∧
      Hid (xs.length = k ∧ acc < 16 ^ k ∧ hexv 0 (bytesOf xs) = some acc))
    (fun _ _ vk _ => 4 - (intOf vk).toNat)
  case atStart => exact ⟨0, 0, [], by omega, rfl, rfl, rfl, hown0, HB0, rfl, by decide, rfl⟩
  case round =>
    clear hown0 HB0
    obtain ⟨k, acc, xs, hk, rfl, rfl, rfl, hown, hB, hh⟩ := hrel
    obtain ⟨hxl, hacc, hval⟩ := hh.out
    clear hh
    by_cases hlt : k < 4
    · obtain ⟨x, hx0, hx1, hxc⟩ : ∃ x : Int, 0 ≤ x ∧ x ≤ 255 ∧ wr.cell? ⟨w.heap.size, k, none⟩ = some (.int .u8 x) := by
        have hcl := hB.cell (p := ⟨w.heap.size, k, none⟩) (by simp)
        have : k = 0 ∨ k = 1 ∨ k = 2 ∨ k = 3 := by omega
        rcases this with rfl | rfl | rfl | rfl
        · exact ⟨a, ha.1, ha.2, hcl.trans (by simp)⟩
        · exact ⟨b, hb.1, hb.2, hcl.trans (by simp)⟩
        · exact ⟨c, hc.1, hc.2, hcl.trans (by simp)⟩
        · exact ⟨d, hd.1, hd.2, hcl.trans (by simp)⟩
      have hp := pow4 k hlt
      have hacc2 : acc ≤ 4095 := by omega
      have q0 : 0 ≤ x % 22 := by omega
      have q1 : x % 22 < 22 := by omega
      have HH : Hid (xs.length = k ∧ acc < 16 ^ k ∧ hexv 0 (bytesOf xs) = some acc) := ⟨hxl, hacc, hval⟩
      clear hxl hacc hval ha hb hc hd hp
      have hix := table_at (x % 22) q0 q1
      have hdg := tbl_dig (x % 22) q0 q1
      have HD : Hid (hexd (UInt8.ofNat (tbl (x % 22)).toNat) = some (dvl (x % 22)).toNat) := hdg
      clear hdg
      go_wp2_with (at_builtin; refine wpList_append_fits _ rfl (.tmp 38) (.tmp 41) 22 rfl (w.heap.size + 1) 5 i0 1 Ybad.underlying22 hi hz1 (w.heap.size + 1) k (4 + len) _ rfl (hown.alloc _) ⟨wr.heap.size, 0, none⟩ 1 1 [.int .u8 (tbl (x % 22))] rfl rfl (cell_one_new _ _ _) (by intro u hu; simp at hu; subst hu; rfl) (by omega) ?_; intro w1 hown1 hgrow1)
      all_goals
        obtain ⟨hxl, hacc, hval⟩ := HH.out
        have hp := pow4 k hlt
        have hvn := hexv_snoc (bytesOf xs) 0 acc _ _ hval HD.out
        have hbo : bytesOf xs ++ [UInt8.ofNat (tbl (x % 22)).toNat] = bytesOf (xs ++ [tbl (x % 22)]) := by simp [bytesOf]
        rw [hbo] at hvn
        have hdl := hexd_lt _ _ HD.out
        have hBn : Below (w.heap.size + 1) (w.alloc (.cells #[.int .u8 a, .int .u8 b, .int .u8 c, .int .u8 d] 26)) w1 := (hB.alloc (by have := hB.size; simp at this; omega) _).grown hgrow1 (by have := hB.size; simp at this; simp; omega) (fun k hk => by cases hk; exact Nat.le_refl _)
        have hle : acc * 16 + (dvl (x % 22)).toNat < 16 ^ (k + 1) := by rw [Nat.pow_succ]; omega
        have hx2 : (xs ++ [tbl (x % 22)]).length = k + 1 := by simp [hxl]
        go_roundw
        case rel => exact ⟨k + 1, acc * 16 + (dvl (x % 22)).toNat, xs ++ [tbl (x % 22)], by omega, rfl, congrArg (Value.int .i64) (by unfold dvl; split <;> omega), by go_num, by simpa using hown1, hBn, hx2, hle, hvn⟩
        case measure => simp [intOf]; omega
    · have hkk : k = 4 := by omega
      subst hkk
      obtain ⟨hxl, hacc, hval⟩ := (⟨hxl, hacc, hval⟩ : xs.length = 4 ∧ acc < 16 ^ 4 ∧ hexv 0 (bytesOf xs) = some acc)
      have hct : ∀ ad, ao = some ad → ∀ j u, (zs.map (Value.int .u8))[j]? = some u → wr.cell? (ad.add j) = some u := fun ad had j u hu => by
        have h1 := HC.out ad had j u hu
        have h2 := Lib.lt_of_cell h1
        have h3 : (w.alloc (.cells #[.int .u8 a, .int .u8 b, .int .u8 c, .int .u8 d] 26)).cell? (ad.add j) = w.cell? (ad.add j) := ((Below.refl _ w).alloc (Nat.le_refl _) _).cell h2
        exact (hB.cell (by omega)).trans (h3.trans h1)
      have HCT : Hid (∀ ad, ao = some ad → ∀ j u, (zs.map (Value.int .u8))[j]? = some u → wr.cell? (ad.add j) = some u) := hct
      have HVAL : Hid (xs.length = 4 ∧ hexv 0 (bytesOf xs) = some acc) := ⟨hxl, hval⟩
      have hzl : (zs.map (Value.int .u8)).length = len * 1 := by simp [HZ.out]
      clear hct hxl hval hacc ha hb hc hd
      go_wp2_with (at_builtin; refine wpList_append_fits_any _ rfl (.tmp 52) (.tmp 53) 22 rfl (w.heap.size + 1) 5 i0 1 Ybad.underlying22 hi hz1 (w.heap.size + 1) 4 (4 + len) _ rfl hown ao len cap (zs.map (Value.int .u8)) rfl hzl HN.out HCT.out (ints_oneCell _ _) (by omega) ?_; intro w1 hown1 hgrow1)
      obtain ⟨hxl, hval⟩ := HVAL.out
      have hB1 : Below (w.heap.size + 1) (w.alloc (.cells #[.int .u8 a, .int .u8 b, .int .u8 c, .int .u8 d] 26)) w1 := hB.grown hgrow1 (by have := hB.size; simp at this; omega) (fun k hk => by cases hk; exact Nat.le_refl _)
      have hB2 : Below w.heap.size w w1 := ((Below.refl _ w).alloc (Nat.le_refl _) _).trans (hB1.mono (by omega))
      have hlt0 := Lib.lt_of_cell HV.out
      have hv1 : w1.cell? ⟨0, 0, none⟩ = some ev := (hB2.cell (p := ⟨0, 0, none⟩) hlt0).trans HV.out
      have hcs : ∀ i, i < 4 → w1.cell? ⟨w.heap.size + 1, 0 + i, none⟩ = some (.int .u8 (xs.getD i 0)) := fun i hi => by
        have := hown1.cells (g := w.heap.size + 1) rfl i (.int .u8 (xs.getD i 0)) (by rw [List.getElem?_append_left (by simp; omega)]; simp [List.getD, List.getElem?_eq_getElem (show i < xs.length by omega)])
        rw [← Go.WideShapes.add_plain]; exact this
      have hres : (hexI (bytesOf xs) == (acc : Int)) = true := by unfold hexI; rw [hval]; simp
      refine (hex4_full (w.heap.size + 1) 0 (4 + len) (4 + len) xs hxl (by omega) (Nat.le_refl _) w1 hcs ev hv1 HE.out).mono ?_
      rintro e w2 ⟨rfl, h2⟩
      clear hcs hown1 hgrow1 hB1 hv1 hval hxl hzl hown
      go_wp2
      go_ret
      exact ⟨rfl, hB2.trans (h2.mono hB2.size)⟩

end Go.Proofs.YbulkadowDoor
