/-
  Seat b6605688aD: the walks of appendHex4 and appendEscape.
-/
import Derived.Test.Qxb6605688aDoorClone
import Derived.Laws.BitsAllLaws
namespace Go.Proofs.Qxb6605688aDoor
open Go.RowKit

/-- The sign of a hexadecimal digit. -/
def dig (up : Bool) (d : Nat) : UInt8 := if d < 10 then UInt8.ofNat (48 + d) else if up then UInt8.ofNat (55 + d) else UInt8.ofNat (87 + d)

/-- The four signs of a 16-bit number. -/
def digs (up : Bool) (u : Nat) : List UInt8 := [dig up (u / 4096 % 16), dig up (u / 256 % 16), dig up (u / 16 % 16), dig up (u % 16)]

theorem hexv_dig_any : ∀ (up : Bool) (d : Nat), d < 16 → hexv (dig up d) = some d := by decide +kernel

theorem hexRun_digs (up : Bool) (u : Nat) (h : u ≤ 65535) : hexRun 0 (digs up u) = some u := by
  unfold digs
  rw [hexRun_some (hexv_dig_any up _ (by omega)), hexRun_some (hexv_dig_any up _ (by omega)), hexRun_some (hexv_dig_any up _ (by omega)), hexRun_some (hexv_dig_any up _ (by omega))]
  simp only [hexRun, Option.some.injEq]
  omega

/-- The low four bits. -/
theorem low4 : ∀ n : Nat, n < 65536 → bits .and .u16 (n : Int) 15 = ((n % 16 : Nat) : Int) := by
  intro n hn
  rw [show (15 : Int) = ((15 : Nat) : Int) from rfl, u16_and_nat n 15 hn (by decide), show (15 : Nat) = 2 ^ 4 - 1 from rfl, Nat.and_two_pow_sub_one_eq_mod]

theorem idx_up : ∀ d : Nat, d < 16 → ∀ w : World, (Instr.index 9 (.string ⟨#[48, 49, 50, 51, 52, 53, 54, 55, 56, 57, 65, 66, 67, 68, 69, 70]⟩) (.int .u16 (d : Int))).run Tryd.prog w = .ok (.int .u8 ((dig true d).toNat : Int)) w
  | 0, _, _ => by kernel_rfl
  | 1, _, _ => by kernel_rfl
  | 2, _, _ => by kernel_rfl
  | 3, _, _ => by kernel_rfl
  | 4, _, _ => by kernel_rfl
  | 5, _, _ => by kernel_rfl
  | 6, _, _ => by kernel_rfl
  | 7, _, _ => by kernel_rfl
  | 8, _, _ => by kernel_rfl
  | 9, _, _ => by kernel_rfl
  | 10, _, _ => by kernel_rfl
  | 11, _, _ => by kernel_rfl
  | 12, _, _ => by kernel_rfl
  | 13, _, _ => by kernel_rfl
  | 14, _, _ => by kernel_rfl
  | 15, _, _ => by kernel_rfl
  | d + 16, h, _ => by omega

theorem idx_lo : ∀ d : Nat, d < 16 → ∀ w : World, (Instr.index 9 (.string ⟨#[48, 49, 50, 51, 52, 53, 54, 55, 56, 57, 97, 98, 99, 100, 101, 102]⟩) (.int .u16 (d : Int))).run Tryd.prog w = .ok (.int .u8 ((dig false d).toNat : Int)) w
  | 0, _, _ => by kernel_rfl
  | 1, _, _ => by kernel_rfl
  | 2, _, _ => by kernel_rfl
  | 3, _, _ => by kernel_rfl
  | 4, _, _ => by kernel_rfl
  | 5, _, _ => by kernel_rfl
  | 6, _, _ => by kernel_rfl
  | 7, _, _ => by kernel_rfl
  | 8, _, _ => by kernel_rfl
  | 9, _, _ => by kernel_rfl
  | 10, _, _ => by kernel_rfl
  | 11, _, _ => by kernel_rfl
  | 12, _, _ => by kernel_rfl
  | 13, _, _ => by kernel_rfl
  | 14, _, _ => by kernel_rfl
  | 15, _, _ => by kernel_rfl
  | d + 16, h, _ => by omega

/-- The shift at the head of round k. -/
def ShiftAt (k : Nat) (s : Value) : Prop :=
  (k = 0 ∧ s = .int .i64 12) ∨ (k = 1 ∧ s = .int .i64 8) ∨ (k = 2 ∧ s = .int .i64 4) ∨ (k = 3 ∧ s = .int .i64 0) ∨ (k = 4 ∧ s = .int .i64 (-4))

theorem own_snoc {w : World} {base : Nat} {v : Value} {n : Nat} {xs ys : List UInt8} {c : UInt8} (h : w.ownsRow base 5 1 v n (bc xs ++ [.int .u8 (c.toNat : Int)])) (e : ys = xs ++ [c]) : w.ownsRow base 5 1 v n (bc ys) := by
  subst e; rw [bc_append]; exact h

theorem one_byte (c : UInt8) : ∀ u ∈ [Value.int .u8 (c.toNat : Int)], u.oneCell' = true := by
  intro u hu; simp at hu; subst hu; rfl

set_option maxHeartbeats 1000000 in
theorem hex4_any (base : Nat) (v : Value) (n : Nat) (l : List UInt8) (u : Nat) (up : Bool) (w : World) (hown : w.ownsRow base 5 1 v n (bc l)) (hb : base ≤ w.heap.size) (hn : n ≤ 1048576) (hu : u ≤ 65535) :
    Calls Tryd.prog 21 #[v, .int .u16 (u : Int), .bool up] w fun e w' => ∃ v', e = .returned v' ∧ w'.ownsRow base 5 1 v' (n + 4) (bc (l ++ digs up u)) ∧ Below base w w' := by
  obtain ⟨i0, hi, hz0, hz1, hz2⟩ := info_parts Tryd.info5
  have hd0 : bits .and .u16 ((u : Int) / 4096) 15 = ((u / 4096 % 16 : Nat) : Int) := by
    have := low4 (u / 4096) (by omega)
    rw [← this]; rfl
  obtain ⟨d0, hk0⟩ : ∃ d, d = u / 4096 % 16 := ⟨_, rfl⟩
  rw [← hk0] at hd0
  have hl0 : d0 < 16 := by omega
  have hd1 : bits .and .u16 ((u : Int) / 256) 15 = ((u / 256 % 16 : Nat) : Int) := by
    have := low4 (u / 256) (by omega)
    rw [← this]; rfl
  obtain ⟨d1, hk1⟩ : ∃ d, d = u / 256 % 16 := ⟨_, rfl⟩
  rw [← hk1] at hd1
  have hl1 : d1 < 16 := by omega
  have hd2 : bits .and .u16 ((u : Int) / 16) 15 = ((u / 16 % 16 : Nat) : Int) := by
    have := low4 (u / 16) (by omega)
    rw [← this]; rfl
  obtain ⟨d2, hk2⟩ : ∃ d, d = u / 16 % 16 := ⟨_, rfl⟩
  rw [← hk2] at hd2
  have hl2 : d2 < 16 := by omega
  have hd3 : bits .and .u16 ((u : Int)) 15 = ((u % 16 : Nat) : Int) := by
    have := low4 (u) (by omega)
    rw [← this]
  obtain ⟨d3, hk3⟩ : ∃ d, d = u % 16 := ⟨_, rfl⟩
  rw [← hk3] at hd3
  have hl3 : d3 < 16 := by omega
  have HD : Hid (digs up u = [dig up d0, dig up d1, dig up d2, dig up d3]) := by rw [hk0, hk1, hk2, hk3]; exact rfl
  clear hk0 hk1 hk2 hk3
  go_enter Tryd.func21, Tryd.ntmps21
  go_wp2
  go_loopw [0, 7] (fun v' s wr => ∃ k : Nat, ShiftAt k s ∧ wr.ownsRow base 5 1 v' (n + k) (bc (l ++ (digs up u).take k)) ∧ Below base w wr) (fun _ s _ => (intOf s + 4).toNat)
  case atStart => exact ⟨0, .inl ⟨rfl, rfl⟩, by simpa using hown, Below.refl _ _⟩
  case round =>
    clear hown
    obtain ⟨k, hsh, hown, hbel⟩ := hrel
    have hsz : base ≤ wr.heap.size := Nat.le_trans hb hbel.size
    rcases hsh with ⟨rfl, rfl⟩ | ⟨rfl, rfl⟩ | ⟨rfl, rfl⟩ | ⟨rfl, rfl⟩ | ⟨rfl, rfl⟩
    · cases up with
      | true =>
        have hix := idx_up d0 hl0
        have HS : Hid (l ++ (digs true u).take 1 = (l ++ (digs true u).take 0) ++ [dig true d0]) := by rw [HD.out]; simp [Hid]
        clear HD
        go_wp2_with (at_builtin; refine wpList_append_own _ rfl (.tmp 19) (.tmp 22) 22 rfl base 5 i0 (.int .u8 0) 1 1 Tryd.underlying22 hi hz0 hz1 hz2 rfl (by decide) _ (n + 0) _ rfl (hown.alloc _) ⟨wr.heap.size, 0, none⟩ 1 1 [.int .u8 ((dig true d0).toNat : Int)] rfl rfl (cell_one_new _ _ _) (one_byte _) (by unfold maxLen; omega) (by omega) (by simp; omega) ?_; intro v2 w2 hown2 hg2 _)
        have hbel2 := (hbel.alloc hsz (Obj.cells #[Value.int .u8 ((dig true d0).toNat : Int)] 5)).grown hg2 (by simp; omega) (fun j hj => (hown.lt j hj).1)
        have hown3 := own_snoc hown2 HS.out
        clear hown2 hg2 hown hbel hix
        go_roundw
        case rel => exact ⟨1, .inr (.inl ⟨rfl, rfl⟩), hown3, hbel2⟩
        case measure => simp [intOf]
      | false =>
        have hix := idx_lo d0 hl0
        have HS : Hid (l ++ (digs false u).take 1 = (l ++ (digs false u).take 0) ++ [dig false d0]) := by rw [HD.out]; simp [Hid]
        clear HD
        go_wp2_with (at_builtin; refine wpList_append_own _ rfl (.tmp 24) (.tmp 27) 22 rfl base 5 i0 (.int .u8 0) 1 1 Tryd.underlying22 hi hz0 hz1 hz2 rfl (by decide) _ (n + 0) _ rfl (hown.alloc _) ⟨wr.heap.size, 0, none⟩ 1 1 [.int .u8 ((dig false d0).toNat : Int)] rfl rfl (cell_one_new _ _ _) (one_byte _) (by unfold maxLen; omega) (by omega) (by simp; omega) ?_; intro v2 w2 hown2 hg2 _)
        have hbel2 := (hbel.alloc hsz (Obj.cells #[Value.int .u8 ((dig false d0).toNat : Int)] 5)).grown hg2 (by simp; omega) (fun j hj => (hown.lt j hj).1)
        have hown3 := own_snoc hown2 HS.out
        clear hown2 hg2 hown hbel hix
        go_roundw
        case rel => exact ⟨1, .inr (.inl ⟨rfl, rfl⟩), hown3, hbel2⟩
        case measure => simp [intOf]
    · cases up with
      | true =>
        have hix := idx_up d1 hl1
        have HS : Hid (l ++ (digs true u).take 2 = (l ++ (digs true u).take 1) ++ [dig true d1]) := by rw [HD.out]; simp [Hid]
        clear HD
        go_wp2_with (at_builtin; refine wpList_append_own _ rfl (.tmp 19) (.tmp 22) 22 rfl base 5 i0 (.int .u8 0) 1 1 Tryd.underlying22 hi hz0 hz1 hz2 rfl (by decide) _ (n + 1) _ rfl (hown.alloc _) ⟨wr.heap.size, 0, none⟩ 1 1 [.int .u8 ((dig true d1).toNat : Int)] rfl rfl (cell_one_new _ _ _) (one_byte _) (by unfold maxLen; omega) (by omega) (by simp; omega) ?_; intro v2 w2 hown2 hg2 _)
        have hbel2 := (hbel.alloc hsz (Obj.cells #[Value.int .u8 ((dig true d1).toNat : Int)] 5)).grown hg2 (by simp; omega) (fun j hj => (hown.lt j hj).1)
        have hown3 := own_snoc hown2 HS.out
        clear hown2 hg2 hown hbel hix
        go_roundw
        case rel => exact ⟨2, .inr (.inr (.inl ⟨rfl, rfl⟩)), hown3, hbel2⟩
        case measure => simp [intOf]
      | false =>
        have hix := idx_lo d1 hl1
        have HS : Hid (l ++ (digs false u).take 2 = (l ++ (digs false u).take 1) ++ [dig false d1]) := by rw [HD.out]; simp [Hid]
        clear HD
        go_wp2_with (at_builtin; refine wpList_append_own _ rfl (.tmp 24) (.tmp 27) 22 rfl base 5 i0 (.int .u8 0) 1 1 Tryd.underlying22 hi hz0 hz1 hz2 rfl (by decide) _ (n + 1) _ rfl (hown.alloc _) ⟨wr.heap.size, 0, none⟩ 1 1 [.int .u8 ((dig false d1).toNat : Int)] rfl rfl (cell_one_new _ _ _) (one_byte _) (by unfold maxLen; omega) (by omega) (by simp; omega) ?_; intro v2 w2 hown2 hg2 _)
        have hbel2 := (hbel.alloc hsz (Obj.cells #[Value.int .u8 ((dig false d1).toNat : Int)] 5)).grown hg2 (by simp; omega) (fun j hj => (hown.lt j hj).1)
        have hown3 := own_snoc hown2 HS.out
        clear hown2 hg2 hown hbel hix
        go_roundw
        case rel => exact ⟨2, .inr (.inr (.inl ⟨rfl, rfl⟩)), hown3, hbel2⟩
        case measure => simp [intOf]
    · cases up with
      | true =>
        have hix := idx_up d2 hl2
        have HS : Hid (l ++ (digs true u).take 3 = (l ++ (digs true u).take 2) ++ [dig true d2]) := by rw [HD.out]; simp [Hid]
        clear HD
        go_wp2_with (at_builtin; refine wpList_append_own _ rfl (.tmp 19) (.tmp 22) 22 rfl base 5 i0 (.int .u8 0) 1 1 Tryd.underlying22 hi hz0 hz1 hz2 rfl (by decide) _ (n + 2) _ rfl (hown.alloc _) ⟨wr.heap.size, 0, none⟩ 1 1 [.int .u8 ((dig true d2).toNat : Int)] rfl rfl (cell_one_new _ _ _) (one_byte _) (by unfold maxLen; omega) (by omega) (by simp; omega) ?_; intro v2 w2 hown2 hg2 _)
        have hbel2 := (hbel.alloc hsz (Obj.cells #[Value.int .u8 ((dig true d2).toNat : Int)] 5)).grown hg2 (by simp; omega) (fun j hj => (hown.lt j hj).1)
        have hown3 := own_snoc hown2 HS.out
        clear hown2 hg2 hown hbel hix
        go_roundw
        case rel => exact ⟨3, .inr (.inr (.inr (.inl ⟨rfl, rfl⟩))), hown3, hbel2⟩
        case measure => simp [intOf]
      | false =>
        have hix := idx_lo d2 hl2
        have HS : Hid (l ++ (digs false u).take 3 = (l ++ (digs false u).take 2) ++ [dig false d2]) := by rw [HD.out]; simp [Hid]
        clear HD
        go_wp2_with (at_builtin; refine wpList_append_own _ rfl (.tmp 24) (.tmp 27) 22 rfl base 5 i0 (.int .u8 0) 1 1 Tryd.underlying22 hi hz0 hz1 hz2 rfl (by decide) _ (n + 2) _ rfl (hown.alloc _) ⟨wr.heap.size, 0, none⟩ 1 1 [.int .u8 ((dig false d2).toNat : Int)] rfl rfl (cell_one_new _ _ _) (one_byte _) (by unfold maxLen; omega) (by omega) (by simp; omega) ?_; intro v2 w2 hown2 hg2 _)
        have hbel2 := (hbel.alloc hsz (Obj.cells #[Value.int .u8 ((dig false d2).toNat : Int)] 5)).grown hg2 (by simp; omega) (fun j hj => (hown.lt j hj).1)
        have hown3 := own_snoc hown2 HS.out
        clear hown2 hg2 hown hbel hix
        go_roundw
        case rel => exact ⟨3, .inr (.inr (.inr (.inl ⟨rfl, rfl⟩))), hown3, hbel2⟩
        case measure => simp [intOf]
    · cases up with
      | true =>
        have hix := idx_up d3 hl3
        have HS : Hid (l ++ (digs true u).take 4 = (l ++ (digs true u).take 3) ++ [dig true d3]) := by rw [HD.out]; simp [Hid]
        clear HD
        go_wp2_with (at_builtin; refine wpList_append_own _ rfl (.tmp 19) (.tmp 22) 22 rfl base 5 i0 (.int .u8 0) 1 1 Tryd.underlying22 hi hz0 hz1 hz2 rfl (by decide) _ (n + 3) _ rfl (hown.alloc _) ⟨wr.heap.size, 0, none⟩ 1 1 [.int .u8 ((dig true d3).toNat : Int)] rfl rfl (cell_one_new _ _ _) (one_byte _) (by unfold maxLen; omega) (by omega) (by simp; omega) ?_; intro v2 w2 hown2 hg2 _)
        have hbel2 := (hbel.alloc hsz (Obj.cells #[Value.int .u8 ((dig true d3).toNat : Int)] 5)).grown hg2 (by simp; omega) (fun j hj => (hown.lt j hj).1)
        have hown3 := own_snoc hown2 HS.out
        clear hown2 hg2 hown hbel hix
        go_roundw
        case rel => exact ⟨4, .inr (.inr (.inr (.inr (⟨rfl, rfl⟩)))), hown3, hbel2⟩
        case measure => simp [intOf]
      | false =>
        have hix := idx_lo d3 hl3
        have HS : Hid (l ++ (digs false u).take 4 = (l ++ (digs false u).take 3) ++ [dig false d3]) := by rw [HD.out]; simp [Hid]
        clear HD
        go_wp2_with (at_builtin; refine wpList_append_own _ rfl (.tmp 24) (.tmp 27) 22 rfl base 5 i0 (.int .u8 0) 1 1 Tryd.underlying22 hi hz0 hz1 hz2 rfl (by decide) _ (n + 3) _ rfl (hown.alloc _) ⟨wr.heap.size, 0, none⟩ 1 1 [.int .u8 ((dig false d3).toNat : Int)] rfl rfl (cell_one_new _ _ _) (one_byte _) (by unfold maxLen; omega) (by omega) (by simp; omega) ?_; intro v2 w2 hown2 hg2 _)
        have hbel2 := (hbel.alloc hsz (Obj.cells #[Value.int .u8 ((dig false d3).toNat : Int)] 5)).grown hg2 (by simp; omega) (fun j hj => (hown.lt j hj).1)
        have hown3 := own_snoc hown2 HS.out
        clear hown2 hg2 hown hbel hix
        go_roundw
        case rel => exact ⟨4, .inr (.inr (.inr (.inr (⟨rfl, rfl⟩)))), hown3, hbel2⟩
        case measure => simp [intOf]
    · go_wp2
      go_ret
      refine ⟨_, rfl, ?_, hbel⟩
      have : (digs up u).take 4 = digs up u := by rw [HD.out]; rfl
      rw [this] at hown
      exact hown

end Go.Proofs.Qxb6605688aDoor
