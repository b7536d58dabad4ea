/-
  Seat b6605722a: isNameChar, and the walk of 'FnIsNameCharIsASCIIIdentifierByte'.
-/
import Derived.Test.Qxb6605722aRows
import Derived.WalkKit
import Derived.WalkSpells
import Derived.WalkLawsBesides
namespace Go.Proofs.Qxb6605722a
open Go.RowKit

/-- The 63 ASCII characters of a name. -/
def isName (c : Int) : Bool := decide ((48 ≤ c ∧ c ≤ 57) ∨ (65 ≤ c ∧ c ≤ 90) ∨ c = 95 ∨ (97 ≤ c ∧ c ≤ 122))

theorem isName_yes {c : Int} (h : (48 ≤ c ∧ c ≤ 57) ∨ (65 ≤ c ∧ c ≤ 90) ∨ c = 95 ∨ (97 ≤ c ∧ c ≤ 122)) : isName c = true := decide_eq_true h
theorem isName_no {c : Int} (h : ¬ ((48 ≤ c ∧ c ≤ 57) ∨ (65 ≤ c ∧ c ≤ 90) ∨ c = 95 ∨ (97 ≤ c ∧ c ≤ 122))) : isName c = false := decide_eq_false h

set_option maxHeartbeats 1000000 in
theorem nameChar_any (c : Int) (w : World) :
    Calls Try.prog 6 #[.int .i32 c] w fun e w' => e = .returned (.bool (isName c)) ∧ w' = w := by
  rcases (show c < 48 ∨ (48 ≤ c ∧ c ≤ 57) ∨ (58 ≤ c ∧ c ≤ 64) ∨ (65 ≤ c ∧ c ≤ 90) ∨ (91 ≤ c ∧ c ≤ 94) ∨ c = 95 ∨ c = 96 ∨ (97 ≤ c ∧ c ≤ 122) ∨ 122 < c by omega) with h | h | h | h | h | h | h | h | h
  all_goals
    first
      | rw [isName_yes (by omega)]
      | rw [isName_no (by omega)]
    try subst h
    try obtain ⟨h1, h2⟩ := h
    try have q1 : (c == 95) = false := by simp; omega
    try have q2 : decide (c ≤ 57) = false := by simp; omega
    try have q3 : decide (c ≤ 90) = false := by simp; omega
    try have q4 : decide (c ≤ 122) = false := by simp; omega
    go_enter Try.func6, Try.ntmps6
    go_wp2
    go_ret
    exact ⟨rfl, rfl⟩

theorem lo_bits : ∀ n : Nat, n < 64 → (bits .and .u64 ((287948901175001088 : Int) / 2 ^ n) 1 == 1) = isName (n : Int) := by decide +kernel
theorem hi_bits : ∀ n : Nat, n < 64 → (bits .and .u64 ((576460745995190270 : Int) / 2 ^ n) 1 == 1) = isName ((n : Int) + 64) := by decide +kernel

set_option maxHeartbeats 400000 in
set_option maxRecDepth 100000 in
theorem ascii_walk (c : Int) (w : World) (h1 : -2147483648 ≤ c) (h2 : c ≤ 2147483647) :
    Calls Try.prog 3 #[.int .i32 c] w fun e w' => e = .returned (.bool true) ∧ w' = w := by
  by_cases hlo : 0 ≤ c ∧ c < 64
  · obtain ⟨n, rfl⟩ := Int.eq_ofNat_of_zero_le hlo.1
    obtain ⟨h3, h4⟩ := hlo
    have hbit := lo_bits n (by omega)
    have HN := nameChar_any (n : Int) w
    generalize isName (n : Int) = B at hbit HN
    go_enter Try.func3, Try.ntmps3
    go_wp2_with fail
    refine HN.mono ?_
    rintro e w' ⟨rfl, rfl⟩
    clear HN
    go_wp2
    go_ret
    exact ⟨by simp, rfl⟩
  by_cases hhi : 64 ≤ c ∧ c < 128
  · obtain ⟨n, rfl⟩ := Int.eq_ofNat_of_zero_le (show 0 ≤ c by omega)
    obtain ⟨h3, h4⟩ := hhi
    clear hlo
    have hbit := hi_bits (n - 64) (by omega)
    rw [show ((n - 64 : Nat) : Int) + 64 = (n : Int) by omega] at hbit
    have HN := nameChar_any (n : Int) w
    generalize isName (n : Int) = B at hbit HN
    go_enter Try.func3, Try.ntmps3
    go_wp2_with fail
    refine HN.mono ?_
    rintro e w' ⟨rfl, rfl⟩
    clear HN
    go_wp2
    go_ret
    exact ⟨by simp, rfl⟩
  · have HN := nameChar_any c w
    rw [isName_no (by omega)] at HN
    go_enter Try.func3, Try.ntmps3
    go_wp2_with fail
    all_goals
      refine HN.mono ?_
      rintro e w' ⟨rfl, rfl⟩
      go_wp2
      go_ret
      exact ⟨rfl, rfl⟩

end Go.Proofs.Qxb6605722a
