/-
  Seat b6605688aD: the walks of Go's own strconv on this road: lower, the inner ParseUint at base 16 and 16 bits over four bytes. (After the guide's shelf: Derived/Shelf/Pu, which has base 10 alone.)
-/
import Derived.Test.Qxb6605688aDoorHex
import Derived.Lib.Strings
import Derived.Lib.Walk
import Derived.Lib.ConvBytes
namespace Go.Proofs.Qxb6605688aDoor
open Go.RowKit

theorem lower_any (c v : Int) (w : World) (h : bits .or .u8 c 32 = v) :
    Calls Tryd.prog 30 #[.int .u8 c] w fun e w' => e = .returned (.int .u8 v) ∧ w' = w := by
  subst h
  go_enter Tryd.func30, Tryd.ntmps30
  go_wp2
  go_ret
  exact ⟨rfl, rfl⟩

/-- What the inner ParseUint hands back: the number; or 0 and its ErrSyntax. -/
def inner (o : Option Nat) : Value :=
  match o with
  | some v => .tuple #[.int .u64 (v : Int), .nilIface]
  | none => .tuple #[.int .u64 0, .iface 45 (.int .i64 2)]

theorem below_bytesWorld (w : World) (e : TypeId) (s : ByteArray) : Below w.heap.size w (Lib.bytesWorld w e s) :=
  ⟨rfl, rfl, rfl, by rw [Lib.bytesWorld_size]; omega, fun k hk => Lib.bytesWorld_at_old w e s k hk⟩

theorem pow_small {k acc : Nat} (hk : k < 4) (h : acc < 16 ^ k) : acc ≤ 4095 := by
  have : 16 ^ k ≤ 16 ^ 3 := Nat.pow_le_pow_right (by omega) (by omega)
  omega

theorem pow_next {k acc d : Nat} (h : acc < 16 ^ k) (hd : d < 16) : acc * 16 + d < 16 ^ (k + 1) := by
  rw [Nat.pow_succ]
  omega

set_option maxHeartbeats 1000000 in
set_option maxRecDepth 100000 in
theorem innerParse_any (t : ByteArray) (ht : t.size = 4) (w : World) :
    Calls Tryd.prog 27 #[.string t, .int .i64 16, .int .i64 16] w fun e w' => e = .returned (inner (hexRun 0 t.data.toList)) ∧ Below w.heap.size w w' := by
  have hemp : t.toList.isEmpty = false := by
    rw [← decide_eq_emptyBytes]
    exact decide_eq_false (fun h => by rw [h] at ht; exact absurd ht (by decide))
  have hcv := Lib.run_convert_string_bytes (P := Tryd.prog) w 9 22 5 t (u := .string) Tryd.underlying9 Tryd.underlying22 Tryd.underlying5
  have hB : ∀ j, j < t.size → (Lib.bytesWorld w 5 t).cell? ⟨w.heap.size, j, none⟩ = some (.int .u8 (t.data.toList.getD j 0).toNat) := fun j hj => Lib.bytesWorld_cell w 5 t j hj
  have hbel := below_bytesWorld w 5 t
  obtain ⟨W1, hW1⟩ : ∃ W1, W1 = Lib.bytesWorld w 5 t := ⟨_, rfl⟩
  rw [← hW1] at hcv hB hbel
  clear hW1
  obtain ⟨bs, hL⟩ : ∃ bs, bs = t.data.toList := ⟨_, rfl⟩
  have hLn : bs.length = 4 := by rw [hL, ← ht, Lib.size_eq]
  rw [← hL] at hB ⊢
  clear hL
  rw [ht] at hB
  have hmv : IntKind.u64.wrap (IntKind.u64.wrap 65536 - 1) = 65535 := by
    rw [IntKind.wrap_u64, IntKind.wrap_u64]
    decide
  go_enter Tryd.func27, Tryd.ntmps27
  go_wp2
  go_loop [12, 13, 101] (fun vu vn vi => ∃ (k acc : Nat) (a : Int), vu = .bool false ∧ vn = .int .u64 a ∧ vi = .int .i64 k ∧ k ≤ 4 ∧ Hid (a = (acc : Int) ∧ acc < 16 ^ k ∧ hexRun 0 bs = hexRun acc (bs.drop k)))
    (fun _ _ vi => 4 - (intOf vi).toNat)
  case atStart => exact ⟨0, 0, 0, rfl, rfl, rfl, by omega, rfl, by omega, rfl⟩
  case round =>
    obtain ⟨k, acc, a, rfl, rfl, rfl, hk, hh⟩ := hrel
    obtain ⟨ha, hacc, hdec⟩ := hh.out
    clear hh
    by_cases hkn : k < 4
    · have hsm := pow_small hkn hacc
      have a0 : 0 ≤ a := by omega
      have a1 : a ≤ 4095 := by omega
      have hc := hB k hkn
      have hdrop : bs.drop k = bs[k]'(by omega) :: bs.drop (k + 1) := List.drop_eq_getElem_cons (by omega)
      have hget : bs.getD k 0 = bs[k]'(by omega) := by simp [List.getD, List.getElem?_eq_getElem (show k < bs.length by omega)]
      rw [hdrop] at hdec
      rw [hget] at hc
      generalize bs[k]'(by omega) = c at hc hdec
      have hc256 : c.toNat < 256 := c.toNat_lt
      clear hB hdrop hget hcv
      by_cases hdig : 48 ≤ c.toNat ∧ c.toNat ≤ 57
      · rw [hexRun_some (hexv_dig hdig)] at hdec
        obtain ⟨hd0, hd1⟩ := hdig
        have HN : Hid (a * 16 + ((c.toNat : Int) - 48) = ((acc * 16 + (c.toNat - 48) : Nat) : Int) ∧ acc * 16 + (c.toNat - 48) < 16 ^ (k + 1) ∧ hexRun 0 bs = hexRun (acc * 16 + (c.toNat - 48)) (bs.drop (k + 1))) := by
          refine ⟨by omega, pow_next hacc (by omega), hdec⟩
        clear hdec ha hacc hsm
        go_wp2
        go_round
        case rel => exact ⟨k + 1, acc * 16 + (c.toNat - 48), a * 16 + ((c.toNat : Int) - 48), rfl, by first | rfl | go_num, by first | rfl | go_num, by omega, HN⟩
        case measure => simp [intOf]; omega
      by_cases hlow : 97 ≤ c.toNat ∧ c.toNat ≤ 102
      · rw [hexRun_some (hexv_low hlow)] at hdec
        have hbit := lower_low c.toNat hc256 hlow.1 hlow.2
        obtain ⟨hd0, hd1⟩ := hlow
        have HN : Hid (a * 16 + ((c.toNat : Int) - 87) = ((acc * 16 + (c.toNat - 87) : Nat) : Int) ∧ acc * 16 + (c.toNat - 87) < 16 ^ (k + 1) ∧ hexRun 0 bs = hexRun (acc * 16 + (c.toNat - 87)) (bs.drop (k + 1))) := by
          refine ⟨by omega, pow_next hacc (by omega), hdec⟩
        have HB : Hid (bits .or .u8 (c.toNat : Int) 32 = (c.toNat : Int)) := hbit
        clear hdec ha hacc hsm hbit hdig
        go_wp2_with (go_at_call 30; refine (lower_any _ _ _ HB.out).mono ?_; rintro e w' ⟨rfl, rfl⟩)
        go_round
        case rel => exact ⟨k + 1, acc * 16 + (c.toNat - 87), a * 16 + ((c.toNat : Int) - 87), rfl, by first | rfl | go_num, by first | rfl | go_num, by omega, HN⟩
        case measure => simp [intOf]; omega
      by_cases hup : 65 ≤ c.toNat ∧ c.toNat ≤ 70
      · rw [hexRun_some (hexv_up hup)] at hdec
        have hbit := lower_up c.toNat hc256 hup.1 hup.2
        obtain ⟨hd0, hd1⟩ := hup
        have HN : Hid (a * 16 + ((c.toNat : Int) - 55) = ((acc * 16 + (c.toNat - 55) : Nat) : Int) ∧ acc * 16 + (c.toNat - 55) < 16 ^ (k + 1) ∧ hexRun 0 bs = hexRun (acc * 16 + (c.toNat - 55)) (bs.drop (k + 1))) := by
          refine ⟨by omega, pow_next hacc (by omega), hdec⟩
        have HB : Hid (bits .or .u8 (c.toNat : Int) 32 = (c.toNat : Int) + 32) := hbit
        clear hdec ha hacc hsm hbit hdig hlow
        go_wp2_with (go_at_call 30; refine (lower_any _ _ _ HB.out).mono ?_; rintro e w' ⟨rfl, rfl⟩)
        go_round
        case rel => exact ⟨k + 1, acc * 16 + (c.toNat - 55), a * 16 + ((c.toNat : Int) - 55), rfl, by first | rfl | go_num, by first | rfl | go_num, by omega, HN⟩
        case measure => simp [intOf]; omega
      · have hn := hexv_none hdig hlow hup
        rw [hexRun_none hn] at hdec
        have hnb := lower_none c.toNat hc256 hdig hlow hup
        have hbd := lower_bd c.toNat hc256
        obtain ⟨v, hv⟩ : ∃ v, bits .or .u8 (c.toNat : Int) 32 = v := ⟨_, rfl⟩
        rw [hv] at hnb hbd
        have HB : Hid (bits .or .u8 (c.toNat : Int) 32 = v) := hv
        have HD : Hid (hexRun 0 bs = none) := hdec
        clear hdec ha hacc hsm hv hn hlow hup
        by_cases h95 : c.toNat = 95
        · have hc95 : W1.cell? ⟨w.heap.size, k, none⟩ = some (.int .u8 95) := by rw [hc, h95]; rfl
          clear hc h95 hnb hbd HB hdig hc256
          go_wp2_with (go_at_call 30; refine (lower_any _ 127 _ (by decide +kernel)).mono ?_; rintro e w' ⟨rfl, rfl⟩)
          go_ret2
          exact ⟨by rw [HD.out]; rfl, hbel⟩
        · have hq : ((c.toNat : Int) == 95) = false := by simp; omega
          clear h95
          go_wp2_with (go_at_call 30; refine (lower_any _ _ _ HB.out).mono ?_; rintro e w' ⟨rfl, rfl⟩)
          all_goals
            go_ret2
            exact ⟨by rw [HD.out]; rfl, hbel⟩
    · have hk4 : k = 4 := by omega
      subst hk4
      have hF : hexRun acc (bs.drop 4) = some acc := by rw [List.drop_eq_nil_of_le (by omega)]; rfl
      rw [hF] at hdec
      subst ha
      have HD : Hid (hexRun 0 bs = some acc) := hdec
      clear hdec hF hacc
      go_wp2
      go_ret2
      exact ⟨by rw [HD.out]; rfl, hbel⟩

end Go.Proofs.Qxb6605688aDoor
