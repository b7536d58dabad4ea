/-
  Seat b6605688aD: the plain mathematics: four hexadecimal digits.
-/
import Derived.Test.Qxb6605688aDoorRows
import Derived.WalkKit
import Derived.WalkSpells
import Derived.WalkLawsBesides
namespace Go.Proofs.Qxb6605688aDoor
open Go.RowKit

/-- The value of a hexadecimal digit of either case. -/
def hexv (c : UInt8) : Option Nat :=
  if 48 ≤ c.toNat ∧ c.toNat ≤ 57 then some (c.toNat - 48)
  else if 97 ≤ c.toNat ∧ c.toNat ≤ 102 then some (c.toNat - 87)
  else if 65 ≤ c.toNat ∧ c.toNat ≤ 70 then some (c.toNat - 55)
  else none

/-- Digits read from the left; the first that is none refuses all. -/
def hexRun : Nat → List UInt8 → Option Nat
  | acc, [] => some acc
  | acc, c :: r => match hexv c with
    | some d => hexRun (acc * 16 + d) r
    | none => none

theorem hexv_dig {c : UInt8} (h : 48 ≤ c.toNat ∧ c.toNat ≤ 57) : hexv c = some (c.toNat - 48) := by simp [hexv, h]
theorem hexv_low {c : UInt8} (h : 97 ≤ c.toNat ∧ c.toNat ≤ 102) : hexv c = some (c.toNat - 87) := by
  unfold hexv; rw [if_neg (by omega), if_pos h]
theorem hexv_up {c : UInt8} (h : 65 ≤ c.toNat ∧ c.toNat ≤ 70) : hexv c = some (c.toNat - 55) := by
  unfold hexv; rw [if_neg (by omega), if_neg (by omega), if_pos h]
theorem hexv_none {c : UInt8} (h1 : ¬ (48 ≤ c.toNat ∧ c.toNat ≤ 57)) (h2 : ¬ (97 ≤ c.toNat ∧ c.toNat ≤ 102)) (h3 : ¬ (65 ≤ c.toNat ∧ c.toNat ≤ 70)) : hexv c = none := by
  unfold hexv; rw [if_neg h1, if_neg h2, if_neg h3]

theorem hexRun_some {acc d : Nat} {c : UInt8} {r : List UInt8} (h : hexv c = some d) : hexRun acc (c :: r) = hexRun (acc * 16 + d) r := by simp [hexRun, h]
theorem hexRun_none {acc : Nat} {c : UInt8} {r : List UInt8} (h : hexv c = none) : hexRun acc (c :: r) = none := by simp [hexRun, h]

/-- What setting the bit 32 makes of a byte. -/
theorem lower_low : ∀ n : Nat, n < 256 → 97 ≤ n → n ≤ 102 → bits .or .u8 (n : Int) 32 = (n : Int) := by decide +kernel
theorem lower_up : ∀ n : Nat, n < 256 → 65 ≤ n → n ≤ 70 → bits .or .u8 (n : Int) 32 = (n : Int) + 32 := by decide +kernel
theorem lower_none : ∀ n : Nat, n < 256 → ¬ (48 ≤ n ∧ n ≤ 57) → ¬ (97 ≤ n ∧ n ≤ 102) → ¬ (65 ≤ n ∧ n ≤ 70) → bits .or .u8 (n : Int) 32 < 97 ∨ (103 ≤ bits .or .u8 (n : Int) 32) := by decide +kernel
theorem lower_bd : ∀ n : Nat, n < 256 → 0 ≤ bits .or .u8 (n : Int) 32 ∧ bits .or .u8 (n : Int) 32 ≤ 255 := by decide +kernel

/-- What 'unicodeEscape' answers. -/
def esc (l : List UInt8) : Int × Bool :=
  if l.length < 6 ∨ l.getD 0 0 ≠ 92 ∨ l.getD 1 0 ≠ 117 then (0, false)
  else match hexRun 0 ((l.drop 2).take 4) with
    | some v => ((v : Int), true)
    | none => (0, false)

end Go.Proofs.Qxb6605688aDoor
