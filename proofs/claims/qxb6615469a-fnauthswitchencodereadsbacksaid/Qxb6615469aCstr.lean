/-
  Seat b6615469a: the walk of '(*fields).cstring' where a zero byte follows, and of its door.
-/
import Derived.Test.Qxb6615469aBytes
namespace Go.Proofs.Qxb6615469a
open Go.RowKit

set_option maxHeartbeats 400000 in
theorem cstring_any (F g o n c z : Nat) (R : List UInt8) (s : ByteArray) (w : World) (hR : R.length = n) (hnc : n ≤ c) (hcm : c ≤ 9223372036854775807) (hz : z < n)
    (hp : w.cell? ⟨F, 0, none⟩ = some (.slice (some ⟨g, o, none⟩) n c)) (he : w.cell? ⟨F, 1, none⟩ = some .nilIface) (hf : w.frozen? ⟨F, 0, none⟩ = false)
    (hc : ∀ j (hj : j < R.length), w.cell? ⟨g, o + j, none⟩ = some (.int .u8 (R[j].toNat : Int))) (hpos : ∀ j, j < z → ∀ hj : j < R.length, R[j] ≠ 0) (h0 : ∀ hj : z < R.length, R[z] = 0)
    (hs : s.data.toList = R.take z) :
    Calls Try.prog 36 #[.pointer (some ⟨F, 0, none⟩)] w fun e w' => e = .returned (.string s) ∧ ∃ ao, (z + 1 < n → ao = some ⟨g, o + (z + 1), none⟩) ∧ w' = w.setCell ⟨F, 0, none⟩ (.slice ao (n - (z + 1)) (c - (z + 1))) := by
  have hcv : (convert 22 9 (.slice (some ⟨g, o, none⟩) z c)).run Try.prog w = .ok (.string s) w := by
    have hl : (R.take z).length = z := by simp; omega
    have := run_convert_bytes_back (P := Try.prog) w 22 9 5 ⟨g, o, none⟩ c (R.take z) Try.underlying22 Try.underlying5 Try.underlying9 (fun j hj => by
      rw [Addr.add_lit, hc j (by omega)]; simp)
    rw [hl] at this
    rw [this, ← hs]
  go_enter Try.func36, Try.ntmps36
  go_wp2
  go_loop [17] (fun i => ∃ k : Nat, k ≤ z ∧ i = .int .i64 k) (fun i => z - (intOf i).toNat)
  case atStart => exact ⟨0, Nat.zero_le _, rfl⟩
  case round =>
    obtain ⟨k, hk, rfl⟩ := hrel
    have hck := hc k (by omega)
    by_cases hlt : k < z
    · have hne := hpos k hlt (by omega)
      obtain ⟨x, hx⟩ : ∃ x, x = R[k] := ⟨_, rfl⟩
      rw [← hx] at hck hne
      have hx0 : 0 < (x.toNat : Int) := by
        have : x.toNat ≠ 0 := fun h => hne (UInt8.toNat_inj.1 h)
        omega
      clear hx hne hc hpos h0 hs hcv
      have hkn : k < n := by omega
      go_wp2
      go_round
      case rel => exact ⟨k + 1, by omega, by go_num⟩
      case measure => simp [intOf]; omega
    · have hk0 : z = k := by omega
      subst hk0
      rw [h0 (by omega)] at hck
      have hck' : w.cell? ⟨g, o + z, none⟩ = some (.int .u8 0) := hck
      clear hck hc hpos h0 hs
      go_wp2
      · go_ret
        refine ⟨rfl, _, ?_, rfl⟩
        intro h
        omega
      · go_ret
        exact ⟨rfl, _, fun _ => rfl, rfl⟩

/-- The same by its door. -/
theorem zzCstring_any (F g o n c z : Nat) (R : List UInt8) (s : ByteArray) (w : World) (hR : R.length = n) (hnc : n ≤ c) (hcm : c ≤ 9223372036854775807) (hz : z < n)
    (hp : w.cell? ⟨F, 0, none⟩ = some (.slice (some ⟨g, o, none⟩) n c)) (he : w.cell? ⟨F, 1, none⟩ = some .nilIface) (hf : w.frozen? ⟨F, 0, none⟩ = false)
    (hc : ∀ j (hj : j < R.length), w.cell? ⟨g, o + j, none⟩ = some (.int .u8 (R[j].toNat : Int))) (hpos : ∀ j, j < z → ∀ hj : j < R.length, R[j] ≠ 0) (h0 : ∀ hj : z < R.length, R[z] = 0)
    (hs : s.data.toList = R.take z) :
    Calls Try.prog 13 #[.pointer (some ⟨F, 0, none⟩)] w fun e w' => e = .returned (.string s) ∧ ∃ ao, (z + 1 < n → ao = some ⟨g, o + (z + 1), none⟩) ∧ w' = w.setCell ⟨F, 0, none⟩ (.slice ao (n - (z + 1)) (c - (z + 1))) := by
  have H := cstring_any F g o n c z R s w hR hnc hcm hz hp he hf hc hpos h0 hs
  clear hp he hf hc hpos h0 hs
  go_enter Try.func13, Try.ntmps13
  go_wp2_with fail
  refine H.mono ?_
  rintro e w' ⟨rfl, ao, hao, rfl⟩
  go_wp2
  go_ret
  exact ⟨rfl, _, hao, rfl⟩

end Go.Proofs.Qxb6615469a
