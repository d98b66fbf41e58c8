/-
  PLAIN: the value of hex digits, with no Go in sight; and what the bit 32 does to a byte.
-/
import Derived.WalkKit
namespace Go.Proofs.YbulkadowDoor
open Go.RowKit

def hexd (c : UInt8) : Option Nat :=
  if 48 ≤ c.toNat ∧ c.toNat ≤ 57 then some (c.toNat - 48)
  else if 97 ≤ c.toNat ∧ c.toNat ≤ 102 then some (c.toNat - 87)
  else if 65 ≤ c.toNat ∧ c.toNat ≤ 70 then some (c.toNat - 55)
  else none

def hexv : Nat → List UInt8 → Option Nat
  | acc, [] => some acc
  | acc, c :: cs => match hexd c with
    | some d => hexv (acc * 16 + d) cs
    | none => none

theorem hexv_cons_some (acc : Nat) (c : UInt8) (cs : List UInt8) (d : Nat) (h : hexd c = some d) : hexv acc (c :: cs) = hexv (acc * 16 + d) cs := by
  simp [hexv, h]
theorem hexv_cons_none (acc : Nat) (c : UInt8) (cs : List UInt8) (h : hexd c = none) : hexv acc (c :: cs) = none := by
  simp [hexv, h]

/-- 'c | 32' of a byte. -/
def low (c : UInt8) : Int := bits .or .u8 (c.toNat : Int) 32

theorem low_all : ∀ n : Fin 256, (¬ (48 ≤ n.val ∧ n.val ≤ 57)) → ((n.val ≠ 95 ∧ 97 ≤ bits .or .u8 (n.val : Int) 32 ∧ bits .or .u8 (n.val : Int) 32 ≤ 102 ∧ hexd (UInt8.ofNat n.val) = some (bits .or .u8 (n.val : Int) 32 - 87).toNat) ∨ (hexd (UInt8.ofNat n.val) = none ∧ (bits .or .u8 (n.val : Int) 32 < 97 ∨ 102 < bits .or .u8 (n.val : Int) 32))) := by
  decide +kernel

theorem low_of (c : UInt8) (h : ¬ (48 ≤ c.toNat ∧ c.toNat ≤ 57)) : (c.toNat ≠ 95 ∧ 97 ≤ low c ∧ low c ≤ 102 ∧ hexd c = some (low c - 87).toNat) ∨ (hexd c = none ∧ (low c < 97 ∨ 102 < low c)) := by
  have := low_all ⟨c.toNat, c.toNat_lt⟩ h
  have e : UInt8.ofNat c.toNat = c := by simp
  simp only [e] at this
  exact this

theorem low_bd (c : UInt8) : 0 ≤ low c ∧ low c ≤ 255 := ⟨bits_lo_u8 .or (c.toNat : Int) 32, by have := bits_hi_u8 .or (c.toNat : Int) 32; unfold low; omega⟩

theorem hexd_lt (c : UInt8) (d : Nat) (h : hexd c = some d) : d < 16 := by
  unfold hexd at h
  split at h
  · cases h; omega
  · split at h
    · cases h; omega
    · split at h
      · cases h; omega
      · cases h

theorem hexv_lt : ∀ (l : List UInt8) (k acc n : Nat), acc < 16 ^ k → hexv acc l = some n → n < 16 ^ (k + l.length)
  | [], k, acc, n, h, e => by simp only [hexv, Option.some.injEq] at e; subst e; simpa using h
  | c :: cs, k, acc, n, h, e => by
    cases hd : hexd c with
    | none => rw [hexv_cons_none acc c cs hd] at e; cases e
    | some d =>
      rw [hexv_cons_some acc c cs d hd] at e
      have h1 := hexd_lt c d hd
      have h2 := hexv_lt cs (k + 1) (acc * 16 + d) n (by rw [Nat.pow_succ]; omega) e
      have e2 : k + 1 + cs.length = k + (c :: cs).length := by simp; omega
      rw [e2] at h2
      exact h2

/-- hex4 of the first four bytes: the value, or -1. -/
def hexI (l : List UInt8) : Int :=
  match hexv 0 l with
  | some n => (n : Int)
  | Option.none => -1

end Go.Proofs.YbulkadowDoor
