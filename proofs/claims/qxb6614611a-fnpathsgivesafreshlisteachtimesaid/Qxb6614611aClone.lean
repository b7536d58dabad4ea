/-
  Seat b6614611a: the walk of 'b1clone'.
-/
import Derived.Test.Qxb6614611aKeeps
namespace Go.Proofs.Qxb6614611a
open Go.RowKit

theorem set_mid {A rest : List Value} {u : Value} {k : Nat} (hA : A.length = k) (hr : 0 < rest.length) : (A ++ rest).set k u = (A ++ [u]) ++ rest.drop 1 := by
  subst hA
  cases rest with
  | nil => simp at hr
  | cons r rs => simp

theorem cell_there {A rest : List Value} {k : Nat} (hA : A.length = k) (hr : 0 < rest.length) : ∃ x, (A ++ rest)[k]? = some x := by
  subst hA
  cases rest with
  | nil => simp at hr
  | cons r rs => exact ⟨r, by simp⟩

set_option maxHeartbeats 400000 in
theorem clone_any (a : Option Addr) (len cap : Nat) (ss : List ByteArray) (w : World) (h : IsStrs w a len cap ss) (hlen : len ≤ 1048576) :
    Calls Try.prog 12 #[.slice a len cap] w fun e w' => ∃ v, e = .returned v ∧ w'.ownsRow w.heap.size 9 1 v len (ss.map Value.string) ∧ Below w.heap.size w w' := by
  obtain ⟨i0, hi, hz0, hz1, hz2⟩ := info_parts Try.info9
  have heq := fun wx => Lib.run_eql_slice_nil (P := Try.prog) wx 28 9 a len cap 0 0 Try.underlying28
  cases a with
  | none =>
    obtain ⟨rfl, rfl⟩ := h.nil_of rfl
    obtain rfl : ss = [] := List.eq_nil_of_length_eq_zero h.len_eq
    go_enter Try.func12, Try.ntmps12
    go_wp2
    go_ret
    exact ⟨_, rfl, World.ownsRow_nil _ _ _ _, Below.refl _ _⟩
  | some x =>
  go_enter Try.func12, Try.ntmps12
  go_wp2_with (at_make; refine wpList_make_full _ rfl _ _ 28 rfl w.heap.size 9 i0 _ 1 Try.underlying28 hi hz0 hz1 _ _ _ _ len rfl rfl (by omega) (by omega) (by rw [hz2]; omega) (by unfold maxLen; omega) (Nat.le_refl _) ?_; intro w2 hown2 hg2)
  have hbel2 := (Below.refl w.heap.size w).grown hg2 (Nat.le_refl _) (by simp)
  clear hg2 heq
  go_loopw [4] (fun i wr => ∃ (k : Nat) (rest : List Value), k ≤ len ∧ i = .int .i64 k ∧ rest.length = len - k ∧ wr.ownsRow w.heap.size 9 1 (.slice (some ⟨w.heap.size, 0, none⟩) len len) len ((ss.take k).map Value.string ++ rest) ∧ Below w.heap.size w wr) (fun i _ => len - (intOf i).toNat)
  case atStart => exact ⟨0, (madeCells (Value.string ByteArray.empty).cells (len * 1)).toList, Nat.zero_le _, rfl, by have := hown2.1; omega, by simpa using hown2, hbel2⟩
  case round =>
    clear hown2 hbel2
    obtain ⟨k, rest, hk, rfl, hrl, hown, hbel⟩ := hrel
    by_cases hlt : k < len
    · obtain ⟨b, off, hx, hlc, hb, hc⟩ := (h.later hbel).at hlt
      cases hx
      have hck := hc k hlt
      obtain ⟨s, hs⟩ : ∃ s, s = ss.getD k ByteArray.empty := ⟨_, rfl⟩
      rw [← hs] at hck
      have hA : ((ss.take k).map Value.string).length = k := by simp [h.len_eq]; omega
      obtain ⟨x, hx⟩ := cell_there hA (rest := rest) (by omega)
      have hcell := hown.cellAt k (by omega)
      rw [hx] at hcell
      have hfz := hown.frozenAt k
      have hst := hown.stored k (.string s)
      rw [set_mid hA (by omega)] at hst
      have hts : ss.take (k + 1) = ss.take k ++ [s] := by
        have := list_step ss 0 k ByteArray.empty (by rw [h.len_eq]; exact hlt) (Nat.zero_le _)
        rw [hs]; simpa using this
      have HS : Hid (ss.take (k + 1) = ss.take k ++ [s]) := hts
      have hbel' := hbel.setCell (p := ⟨w.heap.size, k, none⟩) (Nat.le_refl _) (.string s)
      have HR : Hid (rest.length = len - k) := hrl
      clear hs hc hrl hA hx hown hbel hts
      go_wp2
      go_roundw
      case rel => exact ⟨k + 1, rest.drop 1, by omega, by go_num, by have := HR.out; simp; omega, by rw [HS.out]; simpa using hst.1, hbel'⟩
      case measure => simp [intOf]; omega
    · have hk0 : len = k := by omega
      subst hk0
      obtain rfl : rest = [] := List.eq_nil_of_length_eq_zero (by omega)
      rw [List.take_of_length_le (by rw [h.len_eq]; exact Nat.le_refl _), List.append_nil] at hown
      clear hrl
      go_wp2
      go_ret
      exact ⟨_, rfl, hown, hbel⟩

end Go.Proofs.Qxb6614611a
