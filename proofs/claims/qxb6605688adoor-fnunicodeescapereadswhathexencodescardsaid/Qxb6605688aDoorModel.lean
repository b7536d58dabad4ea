/-
  Seat b6605688aD: the walks of the law's own model, of cloneBytes and of the guards on lengths.
-/
import Derived.Test.Qxb6605688aDoorEsc
namespace Go.Proofs.Qxb6605688aDoor
open Go.RowKit

set_option maxHeartbeats 1000000 in
theorem model_any (a : Option Addr) (len cap : Nat) (l : List UInt8) (w : World) (h : IsBytes w a len cap l) :
    Calls Tryd.prog 10 #[.slice a len cap] w fun e w' => e = .returned (.tuple #[.int .u64 (esc l).1, .bool (esc l).2]) ∧ w' = w := by
  have hl := h.len_le
  by_cases h6 : len < 6
  · rw [esc_short (by rw [h.len_eq]; exact h6)]
    clear h
    go_enter Tryd.func10, Tryd.ntmps10
    go_wp2
    go_ret2
    exact ⟨rfl, rfl⟩
  obtain ⟨b, off, rfl, hlc, hcm, hb, hc⟩ := h.at (show 0 < len by omega)
  have hle := h.len_eq
  have hc0 := hc 0 (by omega)
  have hc1 := hc 1 (by omega)
  rw [getD_at (by omega)] at hc0 hc1
  by_cases h0 : l.getD 0 0 = 92
  case neg =>
    rw [esc_c0 h0]
    obtain ⟨x, hx⟩ : ∃ x, x = l.getD 0 0 := ⟨_, rfl⟩
    rw [← hx] at hc0 h0
    have hne : ((x.toNat : Int) != 92) = true := by
      have : x.toNat ≠ 92 := fun e => h0 (UInt8.toNat_inj.1 e)
      simp; omega
    have hc0' : w.cell? ⟨b, off, none⟩ = some (.int .u8 (x.toNat : Int)) := hc0
    clear hx h0 hc h hc1 hle hc0
    go_enter Tryd.func10, Tryd.ntmps10
    go_wp2
    go_ret2
    exact ⟨rfl, rfl⟩
  by_cases h1 : l.getD 1 0 = 117
  case neg =>
    rw [esc_c1 h1]
    obtain ⟨x, hx⟩ : ∃ x, x = l.getD 1 0 := ⟨_, rfl⟩
    rw [← hx] at hc1 h1
    rw [h0] at hc0
    have hc0' : w.cell? ⟨b, off, none⟩ = some (.int .u8 92) := hc0
    have hne : ((x.toNat : Int) != 117) = true := by
      have : x.toNat ≠ 117 := fun e => h1 (UInt8.toNat_inj.1 e)
      simp; omega
    clear hx h0 hc h hc0 hle h1
    go_enter Tryd.func10, Tryd.ntmps10
    go_wp2
    go_ret2
    exact ⟨rfl, rfl⟩
  rw [h0] at hc0
  rw [h1] at hc1
  have hc0' : w.cell? ⟨b, off, none⟩ = some (.int .u8 92) := hc0
  have hc1' : w.cell? ⟨b, off + 1, none⟩ = some (.int .u8 117) := hc1
  obtain ⟨bs, hbs⟩ : ∃ bs, bs = (l.drop 2).take 4 := ⟨_, rfl⟩
  have hq : bs.length = 4 := by rw [hbs]; simp; omega
  have hcb : ∀ j (hj : j < bs.length), w.cell? ⟨b, off + (2 + j), none⟩ = some (.int .u8 (bs[j].toNat : Int)) := by
    subst hbs
    intro j hj
    rw [hc (2 + j) (by omega)]; simp
  have HS : Hid (∀ v, hexRun 0 bs = some v → esc l = ((v : Int), true)) := by rw [hbs]; exact fun v => esc_some (l := l) (v := v) (by omega) h0 h1
  have HN0 : Hid (hexRun 0 bs = none → esc l = (0, false)) := by rw [hbs]; exact esc_none (l := l) (by omega) h0 h1
  generalize esc l = r at HS HN0 ⊢
  have HQ : Hid _ := hq
  clear h0 h1 hc hc0 hc1 h hbs hq
  go_enter Tryd.func10, Tryd.ntmps10
  go_wp2
  go_loop [4, 5] (fun vv vk => ∃ (k acc : Nat) (x : Int), vv = .int .u64 x ∧ vk = .int .i64 ((2 + k : Nat) : Int) ∧ k ≤ 4 ∧ Hid (x = (acc : Int) ∧ acc < 16 ^ k ∧ hexRun 0 bs = hexRun acc (bs.drop k))) (fun _ vk => 6 - (intOf vk).toNat)
  case atStart => exact ⟨0, 0, 0, rfl, rfl, by omega, rfl, by omega, rfl⟩
  case round =>
    obtain ⟨k, acc, x, rfl, rfl, hk, hh⟩ := hrel
    obtain ⟨ha, hacc, hdec⟩ := hh.out
    clear hh
    by_cases hkn : k < 4
    · have hsm := pow_small hkn hacc
      have a0 : 0 ≤ x := by omega
      have a1 : x ≤ 4095 := by omega
      have hq := HQ.out
      have hck := hcb k (by omega)
      have hdrop : bs.drop k = bs[k]'(by omega) :: bs.drop (k + 1) := List.drop_eq_getElem_cons (by omega)
      rw [hdrop] at hdec
      generalize bs[k]'(by omega) = c at hck hdec
      clear hcb hdrop hq
      have HX := hexVal_any c
      cases hx : hexv c with
      | some d =>
        rw [hx] at HX
        rw [hexRun_some hx] at hdec
        have hd : d < 16 := by
          unfold hexv at hx
          split at hx
          · cases hx; omega
          · split at hx
            · cases hx; omega
            · split at hx
              · cases hx; omega
              · cases hx
        have HN : Hid (x * 16 + (d : Int) = ((acc * 16 + d : Nat) : Int) ∧ acc * 16 + d < 16 ^ (k + 1) ∧ hexRun 0 bs = hexRun (acc * 16 + d) (bs.drop (k + 1))) :=
          ⟨by omega, pow_next hacc hd, hdec⟩
        clear hdec ha hacc hsm hx HS HN0 HQ
        go_wp2_with (go_at_call 20; refine (HX _).mono ?_; rintro e w' ⟨rfl, rfl⟩; simp only [hexRes])
        go_round
        case rel => exact ⟨k + 1, acc * 16 + d, x * 16 + (d : Int), by first | rfl | go_num, by first | rfl | go_num, by omega, HN⟩
        case measure => simp [intOf]; omega
      | none =>
        rw [hx] at HX
        rw [hexRun_none hx] at hdec
        obtain rfl := HN0.out hdec
        clear hdec ha hacc hsm hx HS HN0 HQ
        go_wp2_with (go_at_call 20; refine (HX _).mono ?_; rintro e w' ⟨rfl, rfl⟩; simp only [hexRes])
        go_ret2
        exact ⟨rfl, rfl⟩
    · have hk4 : k = 4 := by omega
      subst hk4
      have hF : hexRun acc (bs.drop 4) = some acc := by rw [List.drop_eq_nil_of_le (by have := HQ.out; omega)]; rfl
      rw [hF] at hdec
      subst ha
      obtain rfl := HS.out acc hdec
      clear hdec hF hacc HS HN0 HQ
      go_wp2
      go_ret2
      exact ⟨rfl, rfl⟩

end Go.Proofs.Qxb6605688aDoor
