/-
  Seat b6605722a: the walk of 'FnIsNameCharWindowCount'.
-/
import Derived.Test.Qxb6605722aName
namespace Go.Proofs.Qxb6605722a
open Go.RowKit

def lowEnd (a x : Int) : Int := if a < x then x else a
def highEnd (b y : Int) : Int := if y < b then y else b
/-- How many numbers of a..b lie in x..y. -/
def ov (a b x y : Int) : Int := if highEnd b y < lowEnd a x then 0 else highEnd b y - lowEnd a x + 1

theorem ov_step (a b x y : Int) (h : a ≤ b + 1) (hxy : x ≤ y) : ov a (b + 1) x y = ov a b x y + if x ≤ b + 1 ∧ b + 1 ≤ y then 1 else 0 := by
  unfold ov highEnd lowEnd
  repeat' split
  all_goals omega

theorem ov_none (a x y : Int) : ov a (a - 1) x y = 0 := by
  unfold ov highEnd lowEnd
  repeat' split
  all_goals omega

def total (a b : Int) : Int := ov a b 48 57 + ov a b 65 90 + ov a b 95 95 + ov a b 97 122

theorem total_yes (a b : Int) (h : a ≤ b + 1) (hn : isName (b + 1) = true) : total a (b + 1) = total a b + 1 := by
  have hn' := of_decide_eq_true hn
  unfold total
  rw [ov_step a b 48 57 h (by omega), ov_step a b 65 90 h (by omega), ov_step a b 95 95 h (by omega), ov_step a b 97 122 h (by omega)]
  rcases hn' with h1 | h1 | h1 | h1
  · rw [if_pos h1, if_neg (by omega), if_neg (by omega), if_neg (by omega)]; omega
  · rw [if_neg (by omega), if_pos h1, if_neg (by omega), if_neg (by omega)]; omega
  · rw [if_neg (by omega), if_neg (by omega), if_pos (by omega), if_neg (by omega)]; omega
  · rw [if_neg (by omega), if_neg (by omega), if_neg (by omega), if_pos h1]; omega

theorem total_no (a b : Int) (h : a ≤ b + 1) (hn : isName (b + 1) = false) : total a (b + 1) = total a b := by
  have hn' := of_decide_eq_false hn
  unfold total
  rw [ov_step a b 48 57 h (by omega), ov_step a b 65 90 h (by omega), ov_step a b 95 95 h (by omega), ov_step a b 97 122 h (by omega)]
  rw [if_neg (by omega), if_neg (by omega), if_neg (by omega), if_neg (by omega)]; omega

theorem total_none (a : Int) : total a (a - 1) = 0 := by
  unfold total; rw [ov_none, ov_none, ov_none, ov_none]; rfl

theorem ret_int {a b : Int} (h : a = b) : Ending.returned (.int .i64 a) = .returned (.int .i64 b) := by rw [h]

set_option maxHeartbeats 400000 in
theorem overlap_any (a b x y : Int) (w : World) (ha : -4294967296 ≤ a ∧ a ≤ 4294967296) (hb : -4294967296 ≤ b ∧ b ≤ 4294967296) (hx : 0 ≤ x ∧ x ≤ 128) (hy : 0 ≤ y ∧ y ≤ 128) :
    Calls Try.prog 7 #[.int .i64 a, .int .i64 b, .int .i64 x, .int .i64 y] w fun e w' => e = .returned (.int .i64 (ov a b x y)) ∧ w' = w := by
  obtain ⟨ha0, ha1⟩ := ha
  obtain ⟨hb0, hb1⟩ := hb
  obtain ⟨hx0, hx1⟩ := hx
  obtain ⟨hy0, hy1⟩ := hy
  go_enter Try.func7, Try.ntmps7
  go_wp2
  all_goals
    go_ret
    refine ⟨ret_int ?_, rfl⟩
    unfold ov highEnd lowEnd
    repeat' split
    all_goals omega

theorem ov_bd (a b x y : Int) (h : x ≤ y) (hy : y - x ≤ 128) : 0 ≤ ov a b x y ∧ ov a b x y ≤ 129 := by
  unfold ov highEnd lowEnd
  repeat' split
  all_goals omega

set_option maxHeartbeats 1000000 in
theorem window_walk (c : Int) (w : World) (h1 : -2147483648 ≤ c) (h2 : c ≤ 2147483647) :
    Calls Try.prog 4 #[.int .i32 c] w fun e w' => e = .returned (.bool true) ∧ w' = w := by
  by_cases hbig : 2147483392 < c
  · go_enter Try.func4, Try.ntmps4
    go_wp2
    go_ret
    exact ⟨rfl, rfl⟩
  go_enter Try.func4, Try.ntmps4
  go_wp2
  go_loop [5, 6] (fun n i => ∃ (x m : Int), c ≤ x ∧ x ≤ c + 256 ∧ i = .int .i64 x ∧ n = .int .i64 m ∧ 0 ≤ m ∧ m ≤ 256 ∧ m ≤ x - c ∧ Hid (m = total c (x - 1))) (fun _ i => (c + 256 - intOf i).toNat)
  case atStart => exact ⟨c, 0, by omega, by omega, rfl, rfl, by omega, by omega, by omega, (total_none c).symm⟩
  case round =>
    obtain ⟨x, m, hx0, hx1, rfl, rfl, hm0, hm1, hm2, hT⟩ := hrel
    by_cases hlt : x ≤ c + 255
    · have HN := nameChar_any x w
      cases hb : isName x with
      | true =>
        have HT : Hid (m + 1 = total c (x + 1 - 1)) := by
          have := total_yes c (x - 1) (by omega) (by rw [show x - 1 + 1 = x by omega]; exact hb)
          rw [show x - 1 + 1 = x by omega] at this
          rw [show x + 1 - 1 = x by omega]
          exact (by rw [hT.out]; exact this.symm)
        rw [hb] at HN
        clear hT hb
        go_wp2_with (go_at_call 6; refine HN.mono ?_; rintro e w' ⟨rfl, rfl⟩)
        go_round
        case rel => exact ⟨x + 1, m + 1, by omega, by omega, rfl, rfl, by omega, by omega, by omega, HT⟩
        case measure => simp [intOf]; omega
      | false =>
        have HT : Hid (m = total c (x + 1 - 1)) := by
          have := total_no c (x - 1) (by omega) (by rw [show x - 1 + 1 = x by omega]; exact hb)
          rw [show x - 1 + 1 = x by omega] at this
          rw [show x + 1 - 1 = x by omega]
          exact (by rw [hT.out]; exact this.symm)
        rw [hb] at HN
        clear hT hb
        go_wp2_with (go_at_call 6; refine HN.mono ?_; rintro e w' ⟨rfl, rfl⟩)
        go_round
        case rel => exact ⟨x + 1, m, by omega, by omega, rfl, rfl, by omega, by omega, by omega, HT⟩
        case measure => simp [intOf]; omega
    · have hT' : m = total c (c + 255) := by rw [hT.out, show x - 1 = c + 255 by omega]
      have HE : Hid (m = ov c (c + 255) 48 57 + ov c (c + 255) 65 90 + ov c (c + 255) 95 95 + ov c (c + 255) 97 122) := hT'
      have O1 := overlap_any c (c + 255) 48 57 w (by omega) (by omega) (by omega) (by omega)
      have O2 := overlap_any c (c + 255) 65 90 w (by omega) (by omega) (by omega) (by omega)
      have O3 := overlap_any c (c + 255) 95 95 w (by omega) (by omega) (by omega) (by omega)
      have O4 := overlap_any c (c + 255) 97 122 w (by omega) (by omega) (by omega) (by omega)
      have b1 := ov_bd c (c + 255) 48 57 (by omega) (by omega)
      have b2 := ov_bd c (c + 255) 65 90 (by omega) (by omega)
      have b3 := ov_bd c (c + 255) 95 95 (by omega) (by omega)
      have b4 := ov_bd c (c + 255) 97 122 (by omega) (by omega)
      clear hT hT'
      generalize ov c (c + 255) 48 57 = o1 at HE O1 b1
      generalize ov c (c + 255) 65 90 = o2 at HE O2 b2
      generalize ov c (c + 255) 95 95 = o3 at HE O3 b3
      generalize ov c (c + 255) 97 122 = o4 at HE O4 b4
      obtain ⟨p1, p2⟩ := b1
      obtain ⟨p3, p4⟩ := b2
      obtain ⟨p5, p6⟩ := b3
      obtain ⟨p7, p8⟩ := b4
      go_wp2_with fail
      refine O1.mono ?_
      rintro e w' ⟨rfl, rfl⟩
      go_wp2_with fail
      refine O2.mono ?_
      rintro e w' ⟨rfl, rfl⟩
      go_wp2_with fail
      refine O3.mono ?_
      rintro e w' ⟨rfl, rfl⟩
      go_wp2_with fail
      refine O4.mono ?_
      rintro e w' ⟨rfl, rfl⟩
      clear O1 O2 O3 O4
      obtain rfl := HE.out
      clear HE
      go_wp2
      go_ret
      exact ⟨rfl, rfl⟩

end Go.Proofs.Qxb6605722a
